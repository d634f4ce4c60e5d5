import Derived.Test.YtlholchmgheemaaDoorW53
namespace Go.Proofs.YtlholchmgheemaaDoor
set_option linter.unusedVariables false
set_option linter.unusedSimpArgs false
open Go.RowKit Go.Maps

/-- u is a slice that holds the strings l. -/
def SAt (w : World) (u : Value) (l : List (List UInt8)) : Prop :=
  ∃ a cap, u = .slice a l.length cap ∧ (l = [] ∨ ∃ g, a = some ⟨g, 0, none⟩ ∧ ∀ (j : Nat) (h : j < l.length), w.cell? ⟨g, j, none⟩ = some (.string (mk l[j])))
/-- v is a slice that holds the pairs M. -/
def PAt (w : World) (v : Value) (M : NU.QM) : Prop :=
  ∃ a cap, v = .slice a M.length cap ∧ (M = [] ∨ ∃ g, a = some ⟨g, 0, none⟩ ∧ ∀ (i : Nat) (h : i < M.length), w.cell? ⟨g, i * 2, none⟩ = some (.string (mk M[i].1)) ∧ ∃ u, w.cell? ⟨g, i * 2 + 1, none⟩ = some u ∧ SAt w u M[i].2)
theorem cell_fr {w w' : World} (h : Fr w w') {p : Addr} {v : Value} (hc : w.cell? p = some v) : w'.cell? p = some v := (Below.cell h (World.block_lt_of_cell? w p hc)).trans hc
theorem SAt.fr {w w' : World} {u : Value} {l : List (List UInt8)} (h : SAt w u l) (f : Fr w w') : SAt w' u l := by
  obtain ⟨a, cap, h1, h2⟩ := h
  refine ⟨a, cap, h1, ?_⟩
  rcases h2 with h2 | ⟨g, h2, h3⟩
  · exact .inl h2
  · exact .inr ⟨g, h2, fun j hj => cell_fr f (h3 j hj)⟩
theorem SAt.get {w : World} {b : Option Addr} {n e : Nat} {l : List (List UInt8)} (h : SAt w (.slice b n e) l) (j : Nat) (hj : j < l.length) : ∃ g, b = some ⟨g, 0, none⟩ ∧ w.cell? ⟨g, j, none⟩ = some (.string (mk l[j])) := by
  obtain ⟨a, c, hv, h⟩ := h
  have ha : b = a := by injection hv
  rcases h with h | ⟨g, hg, h⟩
  · exfalso; rw [h] at hj; simp at hj
  · exact ⟨g, ha.trans hg, h j hj⟩
theorem PAt.fr {w w' : World} {v : Value} {M : NU.QM} (h : PAt w v M) (f : Fr w w') : PAt w' v M := by
  obtain ⟨a, cap, h1, h2⟩ := h
  refine ⟨a, cap, h1, ?_⟩
  rcases h2 with h2 | ⟨g, h2, h3⟩
  · exact .inl h2
  · refine .inr ⟨g, h2, fun i hi => ?_⟩
    obtain ⟨c1, u, c2, hs⟩ := h3 i hi
    exact ⟨cell_fr f c1, u, cell_fr f c2, hs.fr f⟩
theorem SRow.at {B : Nat} {w : World} {v : Value} {l : List (List UInt8)} (h : SRow B w v l) : SAt w v l := by
  by_cases h0 : l = []
  · obtain ⟨a, cap, hv⟩ := h.any
    exact ⟨a, cap, hv, .inl h0⟩
  · obtain ⟨g, cap, hv, _, _, hc⟩ := h.form h0
    exact ⟨_, cap, hv, .inr ⟨g, rfl, hc⟩⟩
theorem Pairs.at {B : Nat} {w : World} {v : Value} {S : SL} {M : NU.QM} (h : Pairs B w v S M) : PAt w v M := by
  have hl := h.svs.len
  rcases h.form with ⟨hv, hS⟩ | ⟨g, cap, hv, _⟩
  · subst hS
    have : M = [] := List.eq_nil_of_length_eq_zero (by rw [← hl]; rfl)
    subst this
    exact ⟨none, 0, hv, .inl rfl⟩
  · refine ⟨some ⟨g, 0, none⟩, cap, by rw [← hl]; exact hv, .inr ⟨g, rfl, fun i hi => ?_⟩⟩
    have hi' : i < S.length := by omega
    have hk := pCells_key S i hi'
    have ho := h.own
    rw [hv] at ho
    refine ⟨?_, S[i].2, ownsRow_cell ho _ _ hk.2, (h.svs.row_at i hi' hi).1.at⟩
    have := ownsRow_cell ho _ _ hk.1
    rw [h.svs.key_at i hi' hi] at this
    exact this
theorem ret_false {b : Bool} (h : b = false) : Ending.returned (.bool false) = .returned (.bool b) := by rw [h]
theorem ret_true {b : Bool} (h : b = true) : Ending.returned (.bool true) = .returned (.bool b) := by rw [h]
theorem toList_beq (a b : List UInt8) : ((mk a).toList == (mk b).toList) = (a == b) := by rw [Lib.toList_data, Lib.toList_data]; rfl
set_option maxRecDepth 100000 in
set_option maxHeartbeats 16000000 in
theorem SamePairs_any (v1 v2 : Value) (M1 M2 : NU.QM) (w : World) (hl1 : M1.length ≤ 1099511627776) (hl2 : M2.length ≤ 1099511627776) (hq1 : Hid (∀ (i : Nat) (h : i < M1.length), M1[i].2.length ≤ 1099511627776)) (hq2 : Hid (∀ (i : Nat) (h : i < M2.length), M2[i].2.length ≤ 1099511627776)) (h1 : PAt w v1 M1) (h2 : PAt w v2 M2) :
    Calls Tryd.prog 12 #[v1, v2] w fun e w' => e = .returned (.bool (decide (M1 = M2))) ∧ Fr w w' := by
  have H1 := Lib.hid h1
  have H2 := Lib.hid h2
  obtain ⟨a1, cap1, rfl, h1⟩ := h1
  obtain ⟨a2, cap2, rfl, h2⟩ := h2
  replace h1 := Lib.hid h1
  replace h2 := Lib.hid h2
  by_cases hlen : M1.length = M2.length
  case neg =>
    have hb : ((M1.length : Int) == (M2.length : Int)) = false := by simpa using fun e => hlen (by omega)
    have hne : Hid (decide (M1 = M2) = false) := by show _ = _; exact decide_eq_false (fun e => hlen (by rw [e]))
    clear hlen
    go_enter Tryd.func12, Tryd.ntmps12
    go_wp2
    go_ret
    exact ⟨ret_false hne.out, Fr.refl _⟩
  case pos =>
    obtain ⟨N, hN⟩ : ∃ N, N = M1.length := ⟨_, rfl⟩
    have hN2 : N = M2.length := by omega
    have HN := Lib.hid hN
    have HN2 := Lib.hid hN2
    have hNb : N ≤ 1099511627776 := by omega
    rw [← hN, ← hN2]
    clear hN hN2 hlen hl1 hl2
    go_enter Tryd.func12, Tryd.ntmps12
    go_wp2
    go_loopw [16] (fun i wr => ∃ k : Nat, k ≤ N ∧ i = .int .i64 (k : Int) ∧ Hid (Fr w wr) ∧ Hid (∀ (j : Nat) (h : j < M1.length) (h' : j < M2.length), j < k → M1[j] = M2[j])) (fun i _ => N - (intOf i).toNat)
    case atStart => exact ⟨0, by omega, rfl, Fr.refl _, fun j h h' hj => absurd hj (by omega)⟩
    case round =>
      obtain ⟨k, hk, rfl, HF, HE⟩ := hrel
      by_cases hkN : k < N
      case neg =>
        have hT : Hid (decide (M1 = M2) = true) := by
          show _ = _
          refine decide_eq_true (List.ext_getElem (by rw [← HN.out, ← HN2.out]) (fun j h h' => HE.out j h h' ?_))
          have := HN.out; omega
        have hkN' : N ≤ k := by omega
        clear hkN
        go_wp2
        go_ret
        exact ⟨ret_true hT.out, HF.out⟩
      case pos =>
        have i1 : k < M1.length := by rw [← HN.out]; exact hkN
        have i2 : k < M2.length := by rw [← HN2.out]; exact hkN
        obtain ⟨g1, rfl, hc1⟩ : ∃ g1, a1 = some ⟨g1, 0, none⟩ ∧ ∀ (i : Nat) (h : i < M1.length), w.cell? ⟨g1, i * 2, none⟩ = some (.string (mk M1[i].1)) ∧ ∃ u, w.cell? ⟨g1, i * 2 + 1, none⟩ = some u ∧ SAt w u M1[i].2 := by
          rcases h1.out with h | h
          · rw [h] at i1; simp at i1
          · exact h
        obtain ⟨g2, rfl, hc2⟩ : ∃ g2, a2 = some ⟨g2, 0, none⟩ ∧ ∀ (i : Nat) (h : i < M2.length), w.cell? ⟨g2, i * 2, none⟩ = some (.string (mk M2[i].1)) ∧ ∃ u, w.cell? ⟨g2, i * 2 + 1, none⟩ = some u ∧ SAt w u M2[i].2 := by
          rcases h2.out with h | h
          · rw [h] at i2; simp at i2
          · exact h
        obtain ⟨x1, u1, y1, b1, e1, rfl, s1⟩ := hc1 k i1
        obtain ⟨x2, u2, y2, b2, e2, rfl, s2⟩ := hc2 k i2
        obtain ⟨P1, hP1⟩ : ∃ P1, P1 = M1[k] := ⟨_, rfl⟩
        obtain ⟨P2, hP2⟩ : ∃ P2, P2 = M2[k] := ⟨_, rfl⟩
        have hz1 : P1.2.length ≤ 1099511627776 := by rw [hP1]; exact hq1.out k i1
        have hz2 : P2.2.length ≤ 1099511627776 := by rw [hP2]; exact hq2.out k i2
        rw [← hP1] at x1 y1 s1
        rw [← hP2] at x2 y2 s2
        replace s1 := Lib.hid s1
        replace s2 := Lib.hid s2
        have HP1 := Lib.hid hP1
        have HP2 := Lib.hid hP2
        obtain ⟨K1, hK1⟩ : ∃ K1, K1 = mk P1.1 := ⟨_, rfl⟩
        obtain ⟨K2, hK2⟩ : ∃ K2, K2 = mk P2.1 := ⟨_, rfl⟩
        obtain ⟨n1, hn1⟩ : ∃ n1, n1 = P1.2.length := ⟨_, rfl⟩
        obtain ⟨n2, hn2⟩ : ∃ n2, n2 = P2.2.length := ⟨_, rfl⟩
        rw [← hK1] at x1
        rw [← hK2] at x2
        rw [← hn1] at y1 hz1
        rw [← hn2] at y2 hz2
        have HK1 := Lib.hid hK1
        have HK2 := Lib.hid hK2
        have Hn1 := Lib.hid hn1
        have Hn2 := Lib.hid hn2
        have d1 : wr.cell? ⟨g1, k * 2, none⟩ = some (.string K1) := cell_fr HF.out x1
        have d2 : wr.cell? ⟨g1, k * 2 + 1, none⟩ = some (.slice b1 n1 e1) := cell_fr HF.out y1
        have d3 : ∀ o, (wr.alloc o).cell? ⟨g2, k * 2, none⟩ = some (.string K2) := fun o => cell_fr (HF.out.alloc o) x2
        have d4 : ∀ o, (wr.alloc o).cell? ⟨g2, k * 2 + 1, none⟩ = some (.slice b2 n2 e2) := fun o => cell_fr (HF.out.alloc o) y2
        clear hc1 hc2 x1 x2 y1 y2 hP1 hP2 hK1 hK2 hn1 hn2
        have hne : Hid (P1 ≠ P2 → decide (M1 = M2) = false) := by
          show _ → _
          intro h
          refine decide_eq_false (fun e => h ?_)
          rw [HP1.out, HP2.out]; simp only [e]
        by_cases hkey : (K1.toList == K2.toList) = true
        case neg =>
          have hkey : (K1.toList == K2.toList) = false := by simpa using hkey
          have hR : Hid (decide (M1 = M2) = false) := by
            refine hne.out (fun e => ?_)
            rw [HK1.out, HK2.out, e, toList_beq] at hkey; simp at hkey
          go_wp2
          go_region
          all_goals go_wp2
          all_goals go_ret
          all_goals exact ⟨ret_false hR.out, (HF.out.alloc _).drew⟩
        case pos =>
          have HKE := Lib.hid hkey
          by_cases hnn : n1 = n2
          case neg =>
            have hb : ((n1 : Int) == (n2 : Int)) = false := by simpa using fun e => hnn (by omega)
            have hR : Hid (decide (M1 = M2) = false) := hne.out (fun e => hnn (by rw [Hn1.out, Hn2.out, e]))
            clear hnn
            go_wp2
            go_region
            all_goals go_wp2
            all_goals go_ret
            all_goals exact ⟨ret_false hR.out, (HF.out.alloc _).drew⟩
          case pos =>
            subst hnn
            go_wp2
            go_region
            all_goals go_wp2
            go_loop [44] (fun i => ∃ j : Nat, j ≤ n1 ∧ i = .int .i64 (j : Int) ∧ Hid (∀ (x : Nat) (h : x < P1.2.length) (h' : x < P2.2.length), x < j → P1.2[x] = P2.2[x])) (fun i => n1 - (intOf i).toNat)
            case atStart => exact ⟨0, by omega, rfl, fun x h h' hx => absurd hx (by omega)⟩
            case round =>
              obtain ⟨j, hj, rfl, HJ⟩ := hrel
              by_cases hjn : j < n1
              case neg =>
                have hjn' : n1 ≤ j := by omega
                have HPE : Hid (∀ (x : Nat) (h : x < M1.length) (h' : x < M2.length), x < k + 1 → M1[x] = M2[x]) := by
                  intro x h h' hx
                  by_cases e : x = k
                  · subst e
                    rw [← HP1.out, ← HP2.out]
                    refine Prod.ext ?_ ?_
                    · have hk' := HKE.out
                      rw [HK1.out, HK2.out, toList_beq] at hk'; simpa using hk'
                    · refine List.ext_getElem (by rw [← Hn1.out, ← Hn2.out]) (fun y hy hy' => HJ.out y hy hy' ?_)
                      have := Hn1.out; omega
                  · exact HE.out x h h' (by omega)
                clear hjn
                go_wp2
                go_roundw
                case rel => exact ⟨k + 1, by omega, by go_num, (HF.out.alloc _).drew, HPE⟩
                case measure => simp [intOf]; omega
              case pos =>
                have j1 : j < P1.2.length := by rw [← Hn1.out]; exact hjn
                have j2 : j < P2.2.length := by rw [← Hn2.out]; exact hjn
                obtain ⟨l1, hb1, z1'⟩ := s1.out.resolve_left (by intro e; rw [e] at j1; simp at j1)
                have z1 := z1' j j1
                clear z1'
                subst hb1
                obtain ⟨l2, hb2, z2'⟩ := s2.out.resolve_left (by intro e; rw [e] at j2; simp at j2)
                have z2 := z2' j j2
                clear z2'
                subst hb2
                obtain ⟨S1, hS1⟩ : ∃ S1, S1 = mk P1.2[j] := ⟨_, rfl⟩
                obtain ⟨S2, hS2⟩ : ∃ S2, S2 = mk P2.2[j] := ⟨_, rfl⟩
                rw [← hS1] at z1
                rw [← hS2] at z2
                have HS1 := Lib.hid hS1
                have HS2 := Lib.hid hS2
                have f1 : ∀ o, (wr.alloc o).cell? ⟨l1, j, none⟩ = some (.string S1) := fun o => cell_fr (HF.out.alloc o) z1
                have f2 : ∀ o, (wr.alloc o).cell? ⟨l2, j, none⟩ = some (.string S2) := fun o => cell_fr (HF.out.alloc o) z2
                clear z1 z2 hS1 hS2
                by_cases hss : (S1.toList == S2.toList) = true
                case neg =>
                  have hss : (S1.toList == S2.toList) = false := by simpa using hss
                  have hR : Hid (decide (M1 = M2) = false) := by
                    refine hne.out (fun e => ?_)
                    rw [HS1.out, HS2.out, toList_beq] at hss
                    subst e; simp at hss
                  go_wp2
                  go_ret
                  exact ⟨ret_false hR.out, (HF.out.alloc _).drew⟩
                case pos =>
                  have HSS := Lib.hid hss
                  go_wp2
                  go_round
                  case rel =>
                    refine ⟨j + 1, by omega, by go_num, fun x h h' hx => ?_⟩
                    by_cases e : x = j
                    · subst e
                      have hk' := HSS.out
                      rw [HS1.out, HS2.out, toList_beq] at hk'; simpa using hk'
                    · exact HJ.out x h h' (by omega)
                  case measure => simp [intOf]; omega
end Go.Proofs.YtlholchmgheemaaDoor
