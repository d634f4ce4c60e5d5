import Derived.Test.YtlholchmgheemaaDoorW58
namespace Go.Proofs.YtlholchmgheemaaDoor
set_option linter.unusedVariables false
set_option linter.unusedSimpArgs false
open Go.RowKit Go.Maps

/-- A block that neither the pairs nor their values are. -/
def Off (b : Nat) (v : Value) (S : SL) : Prop := v.ownBlock ≠ some b ∧ ∀ k u, NU.look k S = some u → u.ownBlock ≠ some b
/-- Blocks that are not the pairs' stay as they were, and stay not the pairs'. -/
def OffPost (w : World) (v : Value) (S : SL) (w' : World) (v' : Value) (S' : SL) : Prop := ∀ b, b < w.heap.size → Off b v S → Off b v' S' ∧ w'.heap[b]? = w.heap[b]?
theorem off_ins {B k g n cap : Nat} {w w4 : World} {v : Value} {S : SL} {M : NU.QM} {key x : ByteArray} (hP : Pairs B w v S M) (hI : InsPost B w S k key x g n cap w4) : OffPost w v S w4 (psl g n cap) (NU.upd (fun _ => .slice (some ⟨w.heap.size, 0, none⟩) 1 1) (L key) S) := by
  intro b hb ho
  refine ⟨⟨?_, fun k' u hu => ?_⟩, hI.grown.block b hb (by simp)⟩
  · have := hI.new; simp [Value.ownBlock]; omega
  · rw [NU.look_upd _ _ _ _ hP.svs.ss] at hu
    split at hu
    · cases hu; simp [Value.ownBlock]; omega
    · exact ho.2 k' u hu
theorem off_at {B k g cap gu capu g2 cap2 n2 : Nat} {w w2 : World} {S : SL} {M : NU.QM} {key : ByteArray} {n : Nat} {x : Value} (hP : Pairs B w (psl g S.length cap) S M)
    (hlk : NU.look (L key) S = some (.slice (some ⟨gu, 0, none⟩) n capu)) (hg2 : w.grownBy w2 (some gu)) (hloc : some gu = some g2 ∨ w.heap.size ≤ g2) :
    OffPost w (psl g S.length cap) S (w2.setCell ⟨g, k * 2 + 1, none⟩ x) (psl g S.length cap) (NU.upd (fun _ => .slice (some ⟨g2, 0, none⟩) n2 cap2) (L key) S) := by
  intro b hb ho
  have hgu : b ≠ gu := by have := ho.2 _ _ hlk; intro e; exact this (by rw [e]; rfl)
  have hg : b ≠ g := by have := ho.1; intro e; exact this (by rw [e]; rfl)
  refine ⟨⟨ho.1, fun k' u hu => ?_⟩, ?_⟩
  · rw [NU.look_upd _ _ _ _ hP.svs.ss] at hu
    split at hu
    · cases hu
      rcases hloc with h | h
      · cases h; simp [Value.ownBlock]; exact fun e => hgu e.symm
      · simp [Value.ownBlock]; omega
    · exact ho.2 k' u hu
  · have h1 := hg2.block b hb (by simp; exact hgu)
    have h2 := (setCell_grown w2 g (k * 2 + 1) x).block b (Nat.lt_of_lt_of_le hb hg2.size) (by simp; exact hg)
    rw [h2, h1]
set_option maxRecDepth 100000 in
set_option maxHeartbeats 16000000 in
theorem put_off (B : Nat) (v : Value) (S : SL) (M : NU.QM) (key x : ByteArray) (hkz : key.size ≤ 4398046511104) (w : World) (hB : B ≤ w.heap.size) (hN : S.length ≤ 10000) (hf : Hid (QLen M 10000)) (hP : Hid (Pairs B w v S M)) :
    Calls Tryd.prog 21 #[v, .string key, .string x] w fun e w' => ∃ v' S', e = .returned v' ∧ Below B w w' ∧ Pairs B w' v' S' (NU.qput (L key) (L x) M) ∧ OffPost w v S w' v' S' := by
  obtain ⟨ao, cap, rfl, HA⟩ : ∃ ao cap, v = .slice ao S.length cap ∧ Hid ((ao = none ∧ S = [] ∧ cap = 0) ∨ ∃ g, ao = some ⟨g, 0, none⟩) := by
    rcases hP.out.form with ⟨hv, hS⟩ | ⟨g, cap, hv, _⟩
    · exact ⟨none, 0, by rw [hv, hS]; rfl, .inl ⟨rfl, hS, rfl⟩⟩
    · exact ⟨_, cap, hv, .inr ⟨g, rfl⟩⟩
  have hcap : S.length ≤ cap := by
    rcases hP.out.own.2 with ⟨hv, h0⟩ | ⟨g', cap', cur, hv, _, _, h1, _⟩
    · omega
    · cases hv; exact h1
  go_enter Tryd.func21, Tryd.ntmps21
  go_wp2
  go_loop [7] (fun i => ∃ k : Nat, k ≤ S.length ∧ i = .int .i64 (k : Int) ∧ Hid (∀ (j : Nat) (h : j < S.length), j < k → NU.lt S[j].1 (L key) = true)) (fun i => S.length - (intOf i).toNat)
  case atStart => exact ⟨0, by omega, rfl, fun j h hj => absurd hj (by omega)⟩
  case round =>
    obtain ⟨k, hk, rfl, HK⟩ := hrel
    by_cases hkN : k < S.length
    case neg =>
      obtain rfl : k = S.length := by omega
      rcases HA.out with ⟨rfl, hS, rfl⟩ | ⟨g, rfl⟩
      · subst hS
        obtain ⟨g4, n4, cap4, w4, hr3, hr4, hI⟩ := ins_app0 B key x w hB
        replace hI := Lib.hid hI
        dsimp only [insW, psl] at hr3 hr4
        simp only [List.length_nil] at *
        clear hkN hcap hk
        go_wp2
        go_region_law (first
          | (refine step_append_run rfl _ _ rfl rfl _ _ _ rfl rfl hr3 ?_)
          | (refine step_append_run rfl _ _ rfl rfl _ _ _ rfl rfl hr4 ?_))
        all_goals go_wp2
        all_goals go_ret
        all_goals first
          | exact ⟨_, _, rfl, ⟨hI.out.grown.os, hI.out.grown.tape, hI.out.grown.output, hI.out.grown.size, fun j hj => hI.out.grown.block j (by omega) (by simp)⟩, put_ins (k := 0) hP.out hI.out (Nat.le_refl _) (fun j h hj => absurd hj (by omega)) (fun j h hj => absurd h (by simp)), (by have h := off_ins hP.out hI.out; exact h)⟩
          | exact ⟨_, rfl, ⟨hI.out.grown.os, hI.out.grown.tape, hI.out.grown.output, hI.out.grown.size, fun j hj => hI.out.grown.block j (by omega) (by simp)⟩, _, put_ins (k := 0) hP.out hI.out (Nat.le_refl _) (fun j h hj => absurd hj (by omega)) (fun j h hj => absurd h (by simp)), (by have h := off_ins hP.out hI.out; exact h)⟩
      · obtain ⟨g3, n3, cap3, w3, g4, n4, cap4, w4, hr3, hr4, hI⟩ := ins_app B g cap S.length S key x w hB hP.out.own (Nat.le_refl _) hN hP.out.one
        replace hI := Lib.hid hI
        dsimp only [insW, psl] at hr3 hr4
        rw [Nat.sub_self] at hr3
        clear hkN
        go_wp2
        go_region_law (first
          | (refine step_append_run rfl _ _ rfl rfl _ _ _ rfl rfl hr3 ?_)
          | (refine step_append_run rfl _ _ rfl rfl _ _ _ rfl rfl hr4 ?_))
        all_goals go_wp2
        all_goals go_ret
        all_goals first
          | exact ⟨_, _, rfl, ⟨hI.out.grown.os, hI.out.grown.tape, hI.out.grown.output, hI.out.grown.size, fun j hj => hI.out.grown.block j (by omega) (by simp)⟩, put_ins hP.out hI.out (Nat.le_refl _) HK.out (fun j h hj => absurd hj (by omega)), (by have h := off_ins hP.out hI.out; exact h)⟩
          | exact ⟨_, rfl, ⟨hI.out.grown.os, hI.out.grown.tape, hI.out.grown.output, hI.out.grown.size, fun j hj => hI.out.grown.block j (by omega) (by simp)⟩, _, put_ins hP.out hI.out (Nat.le_refl _) HK.out (fun j h hj => absurd hj (by omega)), (by have h := off_ins hP.out hI.out; exact h)⟩
    case pos =>
      obtain ⟨g, rfl⟩ : ∃ g, ao = some ⟨g, 0, none⟩ := by
        rcases HA.out with ⟨_, h, _⟩ | h
        · rw [h] at hkN; simp at hkN
        · exact h
      obtain ⟨xk, hxk⟩ : ∃ xk : ByteArray, xk = mk S[k].1 := ⟨_, rfl⟩
      have HXL : Hid (L xk = S[k].1) := by show _ = _; rw [hxk, L_mk]
      have c0 : w.cell? ⟨g, k * 2, none⟩ = some (.string xk) := by rw [hxk]; exact ownsRow_cell hP.out.own (k * 2) _ (pCells_key S k hkN).1
      clear hxk
      by_cases hlt : NU.lt (L xk) (L key) = true
      case pos =>
        have q1 : Op.bytesLess xk.toList key.toList = true := by rw [Lib.toList_data, Lib.toList_data, less_lt]; exact hlt
        have HK2 : Hid (∀ (j : Nat) (h : j < S.length), j < k + 1 → NU.lt S[j].1 (L key) = true) := by
          intro j h hj
          by_cases e : j = k
          · subst e; rw [← HXL.out]; exact hlt
          · exact HK.out j h (by omega)
        clear hlt
        go_wp2
        go_round
        case rel => exact ⟨k + 1, by omega, by go_num, HK2⟩
        case measure => simp [intOf]; omega
      case neg =>
        have hlt : NU.lt (L xk) (L key) = false := by simpa using hlt
        have q1 : Op.bytesLess xk.toList key.toList = false := by rw [Lib.toList_data, Lib.toList_data, less_lt]; exact hlt
        have HLT := Lib.hid hlt
        clear hlt
        by_cases heq : (xk.toList == key.toList) = true
        case pos =>
          have HE : Hid (S[k].1 = L key) := by
            show _ = _
            rw [← HXL.out]; rw [Lib.toList_data, Lib.toList_data] at heq; simpa using heq
          obtain ⟨l, hl, hr, h0⟩ := hP.out.svs.row (NU.look_of_mem hP.out.svs.ss (List.getElem_mem hkN))
          obtain ⟨gu, capu, hu, hgu, _⟩ := hr.form h0
          rw [HE.out] at hl
          have hll : l.length ≤ 10000 := hf.out _ _ hl
          have HU := Lib.hid hu
          rw [hu] at hr
          replace hr := Lib.hid hr
          replace hl := Lib.hid hl
          have c1 : w.cell? ⟨g, k * 2 + 1, none⟩ = some (.slice (some ⟨gu, 0, none⟩) l.length capu) := by rw [← hu]; exact ownsRow_cell hP.out.own (k * 2 + 1) _ (pCells_key S k hkN).2
          have hlk : Hid (NU.look (L key) S = some (.slice (some ⟨gu, 0, none⟩) l.length capu)) := by
            show _ = _; have := NU.look_of_mem hP.out.svs.ss (List.getElem_mem hkN); rw [HE.out, hu] at this; exact this
          clear hu h0
          go_wp2_with (first
            | (at_builtin; refine wpList_spush rfl _ _ rfl B (.slice (some ⟨gu, 0, none⟩) l.length capu) l x w hB (by omega) rfl hr rfl ?_; intro g2 cap2 w2 hr2 hg2 hloc2; replace hr2 := Lib.hid hr2; replace hg2 := Lib.hid hg2; replace hloc2 := Lib.hid hloc2; have hfin := Lib.hid (put_at hP.out hB hkN HK.out HE.out HU.out hl.out hr2.out hg2.out hloc2.out); have hoff := Lib.hid (off_at (k := k) (x := .slice (some ⟨g2, 0, none⟩) (l.length + 1) cap2) (cap2 := cap2) (n2 := l.length + 1) hP.out hlk.out hg2.out hloc2.out); have ho2 := Lib.hid (hP.out.own.kept hg2.out (.inr (by have h3 := hP.out.off _ _ (NU.look_of_mem hP.out.svs.ss (List.getElem_mem hkN)); rw [HU.out] at h3; exact h3.symm))); obtain ⟨z1, hz1⟩ := Option.isSome_iff_exists.1 (ownsRow_some ho2.out (k * 2 + 1) (by omega)); have fz1 := ownsRow_frozen ho2.out (k * 2 + 1))
            | fail)
          go_ret
          first
            | exact ⟨_, _, rfl, hfin.out.2, hfin.out.1, hoff.out⟩
            | exact ⟨_, rfl, hfin.out.2, _, hfin.out.1, hoff.out⟩
        case neg =>
          have heq : (xk.toList == key.toList) = false := by simpa using heq
          have HH : Hid (∀ (j : Nat) (h : j < S.length), k ≤ j → NU.lt (L key) S[j].1 = true) := by
            have hne : L xk ≠ L key := by intro e; rw [Lib.toList_data, Lib.toList_data] at heq; simp [e] at heq
            have h1 : NU.lt (L key) S[k].1 = true := by
              rw [← HXL.out]
              rcases NU.lt_total _ _ hne with h | h
              · rw [HLT.out] at h; cases h
              · exact h
            intro j h hj
            by_cases e : j = k
            · subst e; exact h1
            · exact NU.lt_trans _ _ _ h1 (List.pairwise_iff_getElem.1 hP.out.svs.ss k j hkN h (by omega))
          have hkc : k ≤ cap := by omega
          obtain ⟨g3, n3, cap3, w3, g4, n4, cap4, w4, hr3, hr4, hI⟩ := ins_app B g cap k S key x w hB hP.out.own hk hN hP.out.one
          replace hI := Lib.hid hI
          dsimp only [insW, psl] at hr3 hr4
          go_wp2
          go_region_law (first
            | (refine step_append_run rfl _ _ rfl rfl _ _ _ rfl rfl hr3 ?_)
            | (refine step_append_run rfl _ _ rfl rfl _ _ _ rfl rfl hr4 ?_))
          all_goals go_wp2
          all_goals go_ret
          all_goals first
            | exact ⟨_, _, rfl, ⟨hI.out.grown.os, hI.out.grown.tape, hI.out.grown.output, hI.out.grown.size, fun j hj => hI.out.grown.block j (by omega) (by simp)⟩, put_ins hP.out hI.out hk HK.out HH.out, (by have h := off_ins hP.out hI.out; exact h)⟩
            | exact ⟨_, rfl, ⟨hI.out.grown.os, hI.out.grown.tape, hI.out.grown.output, hI.out.grown.size, fun j hj => hI.out.grown.block j (by omega) (by simp)⟩, _, put_ins hP.out hI.out hk HK.out HH.out, (by have h := off_ins hP.out hI.out; exact h)⟩
end Go.Proofs.YtlholchmgheemaaDoor
