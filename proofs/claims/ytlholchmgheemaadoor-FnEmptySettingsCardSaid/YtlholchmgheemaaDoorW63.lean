import Derived.Test.YtlholchmgheemaaDoorW62
namespace Go.Proofs.YtlholchmgheemaaDoor
set_option linter.unusedVariables false
set_option linter.unusedSimpArgs false
open Go.RowKit Go.Maps

/-- A slice of strings that came in. -/
def InS (w : World) (u : Value) (ss : List ByteArray) : Prop := ∃ a cap, u = .slice a ss.length cap ∧ (ss = [] ∨ ∃ g o, a = some ⟨g, o, none⟩ ∧ ∀ (j : Nat) (h : j < ss.length), w.cell? ⟨g, o + j, none⟩ = some (.string ss[j]))
abbrev IL := List (ByteArray × List ByteArray)
/-- A slice of pairs that came in. -/
def InP (w : World) (v : Value) (l : IL) : Prop := ∃ a cap, v = .slice a l.length cap ∧ l.length ≤ cap ∧ cap ≤ maxLen ∧
  (l = [] ∨ ∃ g o, a = some ⟨g, o, none⟩ ∧ ∀ (i : Nat) (h : i < l.length), w.cell? ⟨g, o + i * 2, none⟩ = some (.string l[i].1) ∧ ∃ u, w.cell? ⟨g, o + i * 2 + 1, none⟩ = some u ∧ InS w u l[i].2)
theorem InS.fr {w w' : World} {u : Value} {ss : List ByteArray} (h : InS w u ss) (f : Fr w w') : InS w' u ss := by
  obtain ⟨a, cap, hv, h⟩ := h
  refine ⟨a, cap, hv, ?_⟩
  rcases h with h | ⟨g, o, hg, h⟩
  · exact .inl h
  · exact .inr ⟨g, o, hg, fun j hj => cell_fr f (h j hj)⟩
theorem InP.fr {w w' : World} {v : Value} {l : IL} (h : InP w v l) (f : Fr w w') : InP w' v l := by
  obtain ⟨a, cap, hv, h1, h2, h⟩ := h
  refine ⟨a, cap, hv, h1, h2, ?_⟩
  rcases h with h | ⟨g, o, hg, h⟩
  · exact .inl h
  · refine .inr ⟨g, o, hg, fun j hj => ?_⟩
    obtain ⟨c, u, hu, hs⟩ := h j hj
    exact ⟨cell_fr f c, u, cell_fr f hu, hs.fr f⟩
def fitS (ss : List ByteArray) : Bool := decide (ss.length ≤ 2147483647) && ss.all (fun s => decide (s.size ≤ 2147483647))
def fitP (l : IL) : Bool := decide (l.length ≤ 2147483647) && l.all (fun p => decide (p.1.size ≤ 2147483647) && fitS p.2)
theorem all_no {α : Type} (f : α → Bool) (l : List α) (k : Nat) (h : k < l.length) (hf : f l[k] = false) : l.all f = false := by
  rw [Bool.eq_false_iff]; intro e
  rw [List.all_eq_true] at e
  have := e _ (List.getElem_mem h)
  rw [hf] at this; cases this
theorem all_yes {α : Type} (f : α → Bool) (l : List α) (h : ∀ (j : Nat) (hj : j < l.length), f l[j] = true) : l.all f = true := by
  rw [List.all_eq_true]; intro x hx
  obtain ⟨j, hj, rfl⟩ := List.mem_iff_getElem.1 hx
  exact h j hj
set_option maxHeartbeats 2000000 in
theorem zzFits4_any (w : World) (v : Value) (ss : List ByteArray) (h : InS w v ss) :
    Calls Tryd.prog 33 #[v] w fun e w' => e = .returned (.bool (fitS ss)) ∧ w = w' := by
  obtain ⟨a, cap, rfl, h⟩ := h
  replace h := Lib.hid h
  by_cases hb : ss.length ≤ 2147483647
  case neg =>
    have hR : Hid (fitS ss = false) := by show _ = _; unfold fitS; rw [decide_eq_false hb]; rfl
    have hb : 2147483647 < (ss.length : Int) := by omega
    go_enter Tryd.func33, Tryd.ntmps33
    go_wp2
    go_ret
    exact ⟨ret_false hR.out, rfl⟩
  case pos =>
    have hD : Hid (fitS ss = ss.all (fun s => decide (s.size ≤ 2147483647))) := by show _ = _; unfold fitS; rw [decide_eq_true hb]; rfl
    obtain ⟨N, hN⟩ : ∃ N, N = ss.length := ⟨_, rfl⟩
    have HN := Lib.hid hN
    rw [← hN] at hb ⊢
    clear hN
    go_enter Tryd.func33, Tryd.ntmps33
    go_wp2
    go_loop [10] (fun i => ∃ k : Nat, k ≤ N ∧ i = .int .i64 (k : Int) ∧ Hid (∀ (j : Nat) (h : j < ss.length), j < k → decide (ss[j].size ≤ 2147483647) = true)) (fun i => N - (intOf i).toNat)
    case atStart => exact ⟨0, by omega, rfl, fun j h hj => absurd hj (by omega)⟩
    case round =>
      obtain ⟨k, hk, rfl, HE⟩ := hrel
      by_cases hkN : k < N
      case neg =>
        have hkN' : N ≤ k := by omega
        have hT : Hid (fitS ss = true) := by show _ = _; rw [hD.out]; exact all_yes _ _ (fun j h => HE.out j h (by have := HN.out; omega))
        clear hkN
        go_wp2
        go_ret
        exact ⟨ret_true hT.out, rfl⟩
      case pos =>
        have i1 : k < ss.length := by rw [← HN.out]; exact hkN
        obtain ⟨g, o, rfl, hc⟩ : ∃ g o, a = some ⟨g, o, none⟩ ∧ ∀ (j : Nat) (h : j < ss.length), w.cell? ⟨g, o + j, none⟩ = some (.string ss[j]) := by
          rcases h.out with h | h
          · rw [h] at i1; simp at i1
          · exact h
        obtain ⟨x, hx⟩ : ∃ x, x = ss[k] := ⟨_, rfl⟩
        have c0 : w.cell? ⟨g, o + k, none⟩ = some (.string x) := by rw [hx]; exact hc k i1
        have HX := Lib.hid hx
        clear hc hx
        by_cases hz : x.size ≤ 2147483647
        case pos =>
          have HE2 : Hid (∀ (j : Nat) (h : j < ss.length), j < k + 1 → decide (ss[j].size ≤ 2147483647) = true) := by
            intro j h hj
            by_cases e : j = k
            · subst e; rw [← HX.out]; exact decide_eq_true hz
            · exact HE.out j h (by omega)
          have hz' : (x.size : Int) ≤ 2147483647 := by omega
          go_wp2
          go_round
          case rel => exact ⟨k + 1, by omega, by go_num, HE2⟩
          case measure => simp [intOf]; omega
        case neg =>
          have hR : Hid (fitS ss = false) := by show _ = _; rw [hD.out]; exact all_no _ _ k i1 (by rw [← HX.out]; exact decide_eq_false hz)
          have hz : 2147483647 < (x.size : Int) := by omega
          go_wp2
          go_ret
          exact ⟨ret_false hR.out, rfl⟩
theorem zzFits3_any (w : World) (K : ByteArray) (u : Value) (ss : List ByteArray) (h : Hid (InS w u ss)) :
    Calls Tryd.prog 26 #[.agg #[.string K, u]] w fun e w' => e = .returned (.bool (decide (K.size ≤ 2147483647) && fitS ss)) ∧ Fr w w' := by
  have C := Lib.hid (fun W hW => zzFits4_any W u ss hW)
  by_cases hz : K.size ≤ 2147483647
  case neg =>
    rw [decide_eq_false hz]
    have hz : 2147483647 < (K.size : Int) := by omega
    go_enter Tryd.func26, Tryd.ntmps26
    go_wp2
    go_ret
    exact ⟨rfl, (Fr.refl _).alloc _⟩
  case pos =>
    rw [decide_eq_true hz]
    have hz' : (K.size : Int) ≤ 2147483647 := by omega
    cases hf : fitS ss
    all_goals
      rw [hf] at C
      clear hf
      go_enter Tryd.func26, Tryd.ntmps26
      go_wp2_with (go_at_call 33; (with_reducible refine (C.out _ (h.out.fr ((Fr.refl _).alloc _))).mono ?_); rintro e w1 ⟨rfl, rfl⟩)
      go_ret
      exact ⟨rfl, (Fr.refl _).alloc _⟩
set_option maxRecDepth 100000 in
set_option maxHeartbeats 8000000 in
theorem zzFits2_any (w : World) (v : Value) (l : IL) (h : InP w v l) :
    Calls Tryd.prog 14 #[v] w fun e w' => e = .returned (.bool (fitP l)) ∧ Fr w w' := by
  obtain ⟨a, cap, rfl, hcap, hcm, h⟩ := h
  replace h := Lib.hid h
  by_cases hb : l.length ≤ 2147483647
  case neg =>
    have hR : Hid (fitP l = false) := by show _ = _; unfold fitP; rw [decide_eq_false hb]; rfl
    have hb : 2147483647 < (l.length : Int) := by omega
    go_enter Tryd.func14, Tryd.ntmps14
    go_wp2
    go_ret
    exact ⟨ret_false hR.out, Fr.refl _⟩
  case pos =>
    have hD : Hid (fitP l = l.all (fun p => decide (p.1.size ≤ 2147483647) && fitS p.2)) := by show _ = _; unfold fitP; rw [decide_eq_true hb]; rfl
    obtain ⟨N, hN⟩ : ∃ N, N = l.length := ⟨_, rfl⟩
    have HN := Lib.hid hN
    rw [← hN] at hb hcap ⊢
    clear hN
    go_enter Tryd.func14, Tryd.ntmps14
    go_wp2
    go_loopw [10] (fun i wr => ∃ k : Nat, k ≤ N ∧ i = .int .i64 (k : Int) ∧ Hid (Fr w wr) ∧ Hid (∀ (j : Nat) (h : j < l.length), j < k → (decide (l[j].1.size ≤ 2147483647) && fitS l[j].2) = true)) (fun i _ => N - (intOf i).toNat)
    case atStart => exact ⟨0, by omega, rfl, Fr.refl _, fun j h hj => absurd hj (by omega)⟩
    case round =>
      obtain ⟨k, hk, rfl, HF, HE⟩ := hrel
      by_cases hkN : k < N
      case neg =>
        have hkN' : N ≤ k := by omega
        have hT : Hid (fitP l = true) := by show _ = _; rw [hD.out]; exact all_yes _ _ (fun j h => HE.out j h (by have := HN.out; omega))
        clear hkN
        go_wp2
        go_ret
        exact ⟨ret_true hT.out, HF.out⟩
      case pos =>
        have i1 : k < l.length := by rw [← HN.out]; exact hkN
        obtain ⟨g, o, rfl, hc⟩ : ∃ g o, a = some ⟨g, o, none⟩ ∧ ∀ (i : Nat) (h : i < l.length), w.cell? ⟨g, o + i * 2, none⟩ = some (.string l[i].1) ∧ ∃ u, w.cell? ⟨g, o + i * 2 + 1, none⟩ = some u ∧ InS w u l[i].2 := by
          rcases h.out with h | h
          · rw [h] at i1; simp at i1
          · exact h
        obtain ⟨x1, u, y1, s1⟩ := hc k i1
        obtain ⟨K, hK⟩ : ∃ K, K = l[k].1 := ⟨_, rfl⟩
        obtain ⟨ss, hss⟩ : ∃ ss, ss = l[k].2 := ⟨_, rfl⟩
        rw [← hK] at x1
        rw [← hss] at s1
        have HK := Lib.hid hK
        have HSS := Lib.hid hss
        have S1 := Lib.hid (s1.fr HF.out)
        obtain ⟨bu, eu, rfl, s2⟩ := s1
        obtain ⟨nu, hnu⟩ : ∃ n, n = ss.length := ⟨_, rfl⟩
        rw [← hnu] at y1 S1
        have C := Lib.hid (fun W hW => zzFits3_any W K (.slice bu nu eu) ss hW)
        clear s2 hnu
        have d1 : wr.cell? ⟨g, o + k * 2, none⟩ = some (.string K) := cell_fr HF.out x1
        have d2 : wr.cell? ⟨g, o + k * 2 + 1, none⟩ = some (.slice bu nu eu) := cell_fr HF.out y1
        have HB : Hid ((decide (l[k].1.size ≤ 2147483647) && fitS l[k].2) = (decide (K.size ≤ 2147483647) && fitS ss)) := by show _ = _; rw [HK.out, HSS.out]
        obtain ⟨b, hb⟩ : ∃ b, b = (decide (K.size ≤ 2147483647) && fitS ss) := ⟨_, rfl⟩
        rw [← hb] at C HB
        clear hc x1 y1 hK hss hb
        cases b
        case false =>
          have hR : Hid (fitP l = false) := by show _ = _; rw [hD.out]; exact all_no _ _ k i1 HB.out
          go_wp2_with (go_at_call 26; (with_reducible refine (C.out _ (Lib.hid (S1.out.fr ((Fr.refl _).alloc _)))).mono ?_); rintro e w1 ⟨rfl, hf1⟩; replace hf1 := Lib.hid hf1)
          go_ret
          exact ⟨ret_false hR.out, (HF.out.alloc _).trans hf1.out⟩
        case true =>
          have HE2 : Hid (∀ (j : Nat) (h : j < l.length), j < k + 1 → (decide (l[j].1.size ≤ 2147483647) && fitS l[j].2) = true) := by
            intro j h hj
            by_cases e : j = k
            · subst e; exact HB.out
            · exact HE.out j h (by omega)
          go_wp2_with (go_at_call 26; (with_reducible refine (C.out _ (Lib.hid (S1.out.fr ((Fr.refl _).alloc _)))).mono ?_); rintro e w1 ⟨rfl, hf1⟩; replace hf1 := Lib.hid hf1)
          go_roundw
          case rel => exact ⟨k + 1, by omega, by go_num, (HF.out.alloc _).trans hf1.out, HE2⟩
          case measure => simp [intOf]; omega
end Go.Proofs.YtlholchmgheemaaDoor
