import Derived.Test.YtlholchmgheemaaDoorW53
namespace Go.Proofs.YtlholchmgheemaaDoor
set_option linter.unusedVariables false
set_option linter.unusedSimpArgs false
open Go.RowKit Go.Maps

/-- Which keys have been met. -/
def Met (left : Lit → Bool) (O M : NU.QM) : Prop := ∀ k, NU.look k O = if left (.string k) = true then none else NU.look k M
theorem upd_at {α : Type} (f : Option α → α) (key : List UInt8) (l : List (List UInt8 × α)) (k : Nat) (hk : k ≤ l.length) (h1 : ∀ (j : Nat) (h : j < l.length), j < k → NU.lt l[j].1 key = true)
    (h2 : ∀ (j : Nat) (h : j < l.length), k ≤ j → NU.lt key l[j].1 = true) : NU.upd f key l = l.take k ++ (key, f none) :: l.drop k := by
  induction l generalizing k with
  | nil => simp at hk; subst hk; rfl
  | cons q r ih =>
    cases k with
    | zero =>
      have h := h2 0 (by simp) (Nat.le_refl _)
      have h : NU.lt key q.1 = true := h
      rw [NU.upd, if_neg (by rw [NU.lt_asymm _ _ h]; simp), if_neg (NU.lt_ne h).symm]; rfl
    | succ k =>
      have h := h1 0 (by simp) (by omega)
      have h : NU.lt q.1 key = true := h
      rw [NU.upd, if_pos h, ih k (by simpa using hk) (fun j hj hjk => h1 (j + 1) (by simpa using hj) (by omega)) (fun j hj hjk => h2 (j + 1) (by simpa using hj) (by omega))]; rfl
theorem SVs.ins {B : Nat} {w w1 : World} {S : SL} {M : NU.QM} (h : SVs B w S M) (k : List UInt8) (v' : Value) (l : List (List UInt8)) (h0 : l ≠ []) (hg : w.grownBy w1 none) (hr : SRow B w1 v' l) {g : Nat} (hv' : v'.ownBlock = some g) (hloc : w.heap.size ≤ g) :
    SVs B w1 (NU.upd (fun _ => v') k S) (NU.upd (fun _ => l) k M) := by
  have newne : ∀ k' u, NU.look k' S = some u → u.ownBlock ≠ some g := by
    intro k' u hu
    obtain ⟨g', hg', _, hlt⟩ := h.blk hu
    rw [hg']; intro e; cases e; omega
  have nn : ∀ k' u, NU.look k' S = some u → u.ownBlock ≠ none := by
    intro k' u hu
    obtain ⟨g', hg', _⟩ := h.blk hu
    rw [hg']; simp
  refine ⟨NU.srt_upd _ _ _ h.ss, NU.srt_upd _ _ _ h.sm, fun k' => ?_, fun k' u m hu hm => ?_, fun k1 k2 u1 u2 h1 h2 hne => ?_⟩
  · rw [NU.look_upd _ _ _ _ h.ss, NU.look_upd _ _ _ _ h.sm]
    split
    · rfl
    · exact h.same k'
  · rw [NU.look_upd _ _ _ _ h.ss] at hu
    rw [NU.look_upd _ _ _ _ h.sm] at hm
    by_cases e : k' = k
    · rw [if_pos e] at hu hm
      cases hu; cases hm
      exact ⟨hr, h0⟩
    · rw [if_neg e] at hu hm
      exact ⟨(h.rows k' u m hu hm).1.kept hg (.inr (nn k' u hu)), (h.rows k' u m hu hm).2⟩
  · rw [NU.look_upd _ _ _ _ h.ss] at h1 h2
    by_cases e1 : k1 = k
    · rw [if_pos e1] at h1
      cases h1
      have e2 : k2 ≠ k := fun e => hne (e1.trans e.symm)
      rw [if_neg e2] at h2
      rw [hv']; exact (newne k2 u2 h2).symm
    · rw [if_neg e1] at h1
      by_cases e2 : k2 = k
      · rw [if_pos e2] at h2
        cases h2
        rw [hv']; exact newne k1 u1 h1
      · rw [if_neg e2] at h2
        exact h.apart k1 k2 u1 u2 h1 h2 hne
theorem met_new {left : Lit → Bool} {O M : NU.QM} (h : Met left O M) (hs : NU.Srt O) {key : List UInt8} {l : List (List UInt8)} (hl : NU.look key M = some l) :
    Met (fun z => left z && !z.sameKey (.string key)) (NU.upd (fun _ => l) key O) M := by
  intro k
  rw [NU.look_upd _ _ _ _ hs]
  show _ = if (left (.string k) && !(Lit.string k).sameKey (.string key)) = true then none else _
  rw [same_str]
  by_cases e : k = key
  · subst e; simp [hl]
  · rw [if_neg e, h k]; simp [e]
/-- The cells from place k on move up by one pair. -/
theorem copy_up (B g cap k : Nat) (S : SL) (e1 e2 : Value) (w : World) (hown : w.ownsRow B 40 2 (psl g (S.length + 1) cap) (S.length + 1) (pCells S ++ [e1, e2])) (hk : k ≤ S.length) (HONE : ∀ p ∈ S, p.2.oneCell' = true) :
    ∃ w3, (∀ ty, (Builtin.copy_ #[24, 24] ty #[.slice (if cap = k + 1 then some ⟨g, 0, none⟩ else some ⟨g, (k + 1) * 2, none⟩) (S.length - k) (cap - (k + 1)), .slice (some ⟨g, k * 2, none⟩) (S.length + 1 - k) (cap - k)]).run Tryd.prog w = .ok (goInt ((S.length - k : Nat) : Int)) w3) ∧
      w3.ownsRow B 40 2 (psl g (S.length + 1) cap) (S.length + 1) ((pCells S ++ [e1, e2]).take ((k + 1) * 2) ++ (pCells S).drop (k * 2) ++ (pCells S ++ [e1, e2]).drop ((k + 1) * 2 + ((pCells S).drop (k * 2)).length)) ∧ w.grownBy w3 (some g) := by
  have hl := pCells_len S
  have hle : ((pCells S).drop (k * 2)).length = (S.length - k) * 2 := by rw [List.length_drop, hl]; omega
  have hall : (pCells S ++ [e1, e2]).length = S.length * 2 + 2 := by rw [List.length_append, hl]; rfl
  obtain ⟨b, o, hbo, hbo2⟩ : ∃ b o, (if cap = k + 1 then some (⟨g, 0, none⟩ : Addr) else some ⟨g, (k + 1) * 2, none⟩) = some ⟨b, o, none⟩ ∧ (S.length - k = 0 ∨ (b = g ∧ o = (k + 1) * 2)) := by
    by_cases hc : cap = k + 1
    · refine ⟨g, 0, by rw [if_pos hc], .inl ?_⟩
      rcases hown.2 with ⟨hv, _⟩ | ⟨g', cap', cur, hv, _, _, h1, _⟩
      · cases hv
      · cases hv; omega
    · exact ⟨g, (k + 1) * 2, by rw [if_neg hc], .inr ⟨rfl, rfl⟩⟩
  have hmin : Nat.min (S.length + 1 - k) (S.length - k) = S.length - k := Nat.min_eq_right (by omega)
  refine ⟨w.setCells g ((k + 1) * 2) ((pCells S).drop (k * 2)), fun ty => ?_, ownsRow_setCells _ _ hown (by rw [hle, hall]; omega), setCells_grown _ _ _ _⟩
  rw [hbo]
  have hrun := run_copy_sz (P := Tryd.prog) w 24 24 ty 40 2 b o (S.length - k) (cap - (k + 1)) ⟨g, k * 2, none⟩ (S.length + 1 - k) (cap - k) ((pCells S).drop (k * 2)) Tryd.underlying24 sizePair (by rw [hmin, hle])
    (fun j v hj => by
      have h1 : (pCells S ++ [e1, e2])[k * 2 + j]? = some v := by
        rw [List.getElem?_drop] at hj
        have hlt : k * 2 + j < (pCells S).length := (List.getElem?_eq_some_iff.1 hj).1
        rw [List.getElem?_append_left hlt]; exact hj
      have := ownsRow_cell hown (k * 2 + j) v h1
      rw [show (⟨g, k * 2, none⟩ : Addr).add j = ⟨g, k * 2 + j, none⟩ by unfold Addr.add; split <;> simp_all]
      exact this)
    (fun j hj => by
      rcases hbo2 with h0 | ⟨rfl, rfl⟩
      · rw [hle] at hj; omega
      · exact ownsRow_some hown _ (by rw [hle] at hj; omega))
    (fun j hj => by
      rcases hbo2 with h0 | ⟨rfl, rfl⟩
      · rw [hle] at hj; omega
      · exact ownsRow_frozen hown _)
    (fun v hv => by
      have hv' : v ∈ pCells S ++ [e1, e2] := List.mem_append.2 (.inl (List.mem_of_mem_drop hv))
      have hp : v ∈ pCells S := List.mem_of_mem_drop hv
      unfold pCells at hp
      obtain ⟨p, hpS, hp⟩ := List.mem_flatMap.1 hp
      simp at hp
      rcases hp with rfl | rfl
      · rfl
      · exact HONE p hpS)
  have e : w.setCells b o ((pCells S).drop (k * 2)) = w.setCells g ((k + 1) * 2) ((pCells S).drop (k * 2)) := by
    rcases hbo2 with h0 | ⟨rfl, rfl⟩
    · have : (pCells S).drop (k * 2) = [] := List.eq_nil_of_length_eq_zero (by rw [hle, h0])
      rw [this]; rfl
    · rfl
  rw [hmin, e] at hrun
  exact hrun
/-- A pair more. -/
theorem pairs_fin {B k g2 cap2 g3 cap3 : Nat} {w1 w2 w3 w4 : World} {v e1 e2 : Value} {S : SL} {O : NU.QM} {key : ByteArray} {l : List (List UInt8)} (hP : Pairs B w1 v S O) (hB : B ≤ w1.heap.size) (hg2 : w1.grownBy w2 v.ownBlock) (hloc2 : v.ownBlock = some g2 ∨ w1.heap.size ≤ g2)
    (hown3 : w3.ownsRow B 40 2 (psl g2 (S.length + 1) cap2) (S.length + 1) ((pCells S ++ [e1, e2]).take ((k + 1) * 2) ++ (pCells S).drop (k * 2) ++ (pCells S ++ [e1, e2]).drop ((k + 1) * 2 + ((pCells S).drop (k * 2)).length))) (hg3 : w2.grownBy w3 (some g2))
    (hr4 : SRow B w4 (.slice (some ⟨g3, 0, none⟩) l.length cap3) l) (h0 : l ≠ []) (hg4 : w3.grownBy w4 none) (hloc4 : w3.heap.size ≤ g3) (hk : k ≤ S.length)
    (h1 : ∀ (j : Nat) (h : j < S.length), j < k → NU.lt S[j].1 (L key) = true) (h2 : ∀ (j : Nat) (h : j < S.length), k ≤ j → NU.lt (L key) S[j].1 = true) :
    Pairs B ((w4.setCell ⟨g2, k * 2, none⟩ (.string key)).setCell ⟨g2, k * 2 + 1, none⟩ (.slice (some ⟨g3, 0, none⟩) l.length cap3)) (psl g2 (S.length + 1) cap2) (NU.upd (fun _ => .slice (some ⟨g3, 0, none⟩) l.length cap3) (L key) S) (NU.upd (fun _ => l) (L key) O) ∧
    (NU.upd (fun _ => Value.slice (some ⟨g3, 0, none⟩) l.length cap3) (L key) S).length = S.length + 1 := by
  have hup := upd_at (fun _ => Value.slice (some ⟨g3, 0, none⟩) l.length cap3) (L key) S k hk h1 h2
  have hlen : (NU.upd (fun _ => Value.slice (some ⟨g3, 0, none⟩) l.length cap3) (L key) S).length = S.length + 1 := by
    rw [hup, List.length_append, List.length_cons, List.length_take, List.length_drop]; omega
  have hg2lt := hown3.lt g2 rfl
  have ne2 : ∀ k' u, NU.look k' S = some u → u.ownBlock ≠ some g2 := by
    intro k' u hu
    rcases hloc2 with h | h
    · rw [← h]; exact hP.off k' u hu
    · obtain ⟨g', hg', _, hlt⟩ := hP.svs.blk hu
      rw [hg']; intro e; cases e; omega
  have s3 := (hP.svs.kept hg2 hP.off).kept hg3 ne2
  have s4 := s3.ins (L key) (.slice (some ⟨g3, 0, none⟩) l.length cap3) l h0 hg4 hr4 rfl hloc4
  have ne4 : ∀ k' u, NU.look k' (NU.upd (fun _ => Value.slice (some ⟨g3, 0, none⟩) l.length cap3) (L key) S) = some u → u.ownBlock ≠ some g2 := by
    intro k' u hu
    rw [NU.look_upd _ _ _ _ hP.svs.ss] at hu
    split at hu
    · cases hu
      simp [Value.ownBlock]; omega
    · exact ne2 k' u hu
  have s5 := (s4.kept (setCell_grown w4 g2 (k * 2) (.string key)) ne4).kept (setCell_grown _ g2 (k * 2 + 1) (.slice (some ⟨g3, 0, none⟩) l.length cap3)) ne4
  refine ⟨⟨?_, s5, ne4⟩, hlen⟩
  have o4 := hown3.kept hg4 (by simp [Value.ownBlock])
  have hxl := o4.1
  have o5 := ownsRow_set (ownsRow_set o4 (k * 2) (.string key) (by rw [hxl]; omega)) (k * 2 + 1) (.slice (some ⟨g3, 0, none⟩) l.length cap3) (by rw [List.length_set, hxl]; omega)
  have e := pCells_insert S k hk (L key) (.slice (some ⟨g3, 0, none⟩) l.length cap3) e1 e2
  rw [mk_L] at e
  rw [e] at o5
  rw [hlen, hup]
  exact o5
set_option maxRecDepth 100000 in
set_option maxHeartbeats 16000000 in
theorem pairs_any (B b n : Nat) (S : SL) (M : NU.QM) (w : World) (hG : Hid (Gmap B w b n S M)) (hn : n ≤ 10001) (hQ : Hid (QLen M n)) :
    Calls Tryd.prog 23 #[.map (some b)] w fun e w' => ∃ v S', e = .returned v ∧ Fr w w' ∧ Pairs w.heap.size w' v S' M := by
  have hbl := hG.out.2.1.lt
  go_enter Tryd.func23, Tryd.ntmps23
  go_wp2_with (first
    | (at_range; refine wpList_range_own _ rfl _ 47 rfl 9 38 lawK Tryd.underlying47 Rsl b n (dmap S) rfl hG.out.2.1 ?_; intro w0 hrg0 hg0 hs0; replace hrg0 := Lib.hid hrg0; replace hg0 := Lib.hid hg0; replace hs0 := Lib.hid hs0)
    | fail)
  go_frame
  go_loopw [3] (fun o wr => ∃ (left : Lit → Bool) (cnt : Nat) (S' : SL) (O : NU.QM), Hid (wr.ranges Tryd.prog 9 Rsl b w.heap.size n (dmap S) left cnt) ∧ Hid (Fr w wr) ∧ Hid (w.heap.size + 1 ≤ wr.heap.size) ∧ Hid (Pairs (w.heap.size + 1) wr o S' O) ∧ Hid (Met left O M) ∧ Hid (S'.length + cnt ≤ Maps.size (dmap S)) ∧ (∃ a cap, o = .slice a S'.length cap ∧ Hid ((a = none ∧ S' = []) ∨ ∃ g, a = some ⟨g, 0, none⟩))) (fun _ wr => wr.rangeLeft b w.heap.size)
  case atStart =>
    refine ⟨_, _, [], [], hrg0, ⟨hg0.out.os, hg0.out.tape, hg0.out.output, hg0.out.size, fun k hk => hg0.out.block k hk (by simp)⟩, by show _ ≤ _; have := hs0.out; omega, Pairs.nil _ _, ?_, by show _ ≤ _; simp, ⟨none, 0, rfl, .inl ⟨rfl, rfl⟩⟩⟩
    intro k
    rw [has_look, hG.out.1.same k]
    cases NU.look k M <;> rfl
  case round =>
    obtain ⟨left, cnt, S', O, HR, HF, HZ, HP, HM, HC, hform⟩ := hrel
    have HGr := Lib.hid ((hG.out.fr HF.out).1)
    obtain ⟨ao, cap, rfl, HA⟩ := hform
    go_wp2_with (first
      | (at_next; refine wpList_next_g rfl _ rfl B b w.heap.size n S M left cnt rfl HR HGr ?_ ?_)
      | fail)
    · intro hl0
      have HO : Hid (O = M) := by
        show _ = _
        refine NU.srt_ext HP.out.svs.sm hG.out.1.sm (fun k => ?_)
        rw [HM.out k, hl0]; rfl
      clear hl0
      go_wp2
      go_ret
      exact ⟨_, S', rfl, HF.out, by rw [← HO.out]; exact ⟨ownsRow_mono HP.out.own (by omega), HP.out.svs.mono (by omega), HP.out.off⟩⟩
    · intro key gl capl l w1 cnt1 hkz hlM hlS hleft hrl hl0 hrg1 hcnt hg1 hs1 hen
      replace hrg1 := Lib.hid hrg1
      replace hg1 := Lib.hid hg1
      replace hlM := Lib.hid hlM
      replace hl0 := Lib.hid hl0
      replace hkz := Lib.hid hkz
      have HP1 : Hid (Pairs (w.heap.size + 1) w1 (.slice ao S'.length cap) S' O) := by
        refine HP.out.kept hg1.out ?_ (fun k u hu => ?_)
        · rcases HA.out with ⟨rfl, _⟩ | ⟨g, rfl⟩
          · left; rfl
          · right
            rcases HP.out.form with ⟨hv, _⟩ | ⟨g', cap', hv, hb, _⟩
            · cases hv
            · cases hv; simp [Value.ownBlock]; omega
        · obtain ⟨g', hg', hb, _⟩ := HP.out.svs.blk hu
          rw [hg']; simp; omega
      have hrl1 : Hid (SRow B w1 (.slice (some ⟨gl, 0, none⟩) l.length capl) l) := by
        refine hrl.kept hg1.out (.inr ?_)
        have := (((hG.out.1).blk hlS)).choose_spec
        obtain ⟨g', hg', _, hlt⟩ := (hG.out.1).blk hlS
        rw [hg']; simp; omega
      have hglt : Hid (gl < w.heap.size) := by
        show _ < _
        obtain ⟨g', hg', _, hlt⟩ := (hG.out.1).blk hlS
        have : gl = g' := by simpa [Value.ownBlock] using hg'
        omega
      have hP1b : Hid (∀ j, (Value.slice ao S'.length cap).ownBlock = some j → w.heap.size + 1 ≤ j) := fun j hj => (HP1.out.own.lt j hj).1
      have hnew : Hid (NU.look (L key) O = none) := by show _ = _; rw [HM.out, hleft]; rfl
      have hll : l.length ≤ 10001 := Nat.le_trans (hQ.out _ _ hlM.out) hn
      have hB1 : w.heap.size + 1 ≤ w1.heap.size := by have h1 := HZ.out; omega
      have hN : S'.length ≤ 10001 := by have h1 := HC.out; have h2 := gmap_size hG.out; omega
      clear hlS hleft hrl hs1
      go_wp2_with fail
      go_loop [6] (fun i => ∃ k : Nat, k ≤ S'.length ∧ i = .int .i64 (k : Int) ∧ Hid (∀ (j : Nat) (h : j < S'.length), k ≤ j → NU.lt (L key) S'[j].1 = true)) (fun i => (intOf i).toNat)
      case atStart => exact ⟨S'.length, Nat.le_refl _, rfl, fun j h hk => absurd hk (by omega)⟩
      case round =>
        obtain ⟨k, hk, rfl, HK⟩ := hrel
        by_cases hk0 : k = 0
        · subst hk0
          have HLow : Hid (∀ (j : Nat) (h : j < S'.length), j < 0 → NU.lt S'[j].1 (L key) = true) := fun j h hj => absurd hj (by omega)
          go_wp2_with (first
            | (at_builtin; refine wpList_ppush rfl _ _ rfl (w.heap.size + 1) (.slice ao S'.length cap) S'.length (pCells S') _ _ rfl rfl w1 hB1 (by omega) rfl (Lib.hid HP1.out.own) rfl ?_; intro g2 cap2 w2 hown2 hg2 hloc2 hb2; replace hown2 := Lib.hid hown2; replace hg2 := Lib.hid hg2; replace hloc2 := Lib.hid hloc2; replace hb2 := Lib.hid hb2)
            | fail)
          have hcap2 : S'.length + 1 ≤ cap2 ∧ cap2 ≤ maxLen := by
            rcases hown2.out.2 with ⟨hv, _⟩ | ⟨g', cap', cur, hv, _, _, h1, h2, _⟩
            · cases hv
            · cases hv; exact ⟨h1, h2⟩
          obtain ⟨hcap2, hcap3⟩ := hcap2
          unfold maxLen at hcap3
          have HONE : ∀ p ∈ S', p.2.oneCell' = true := by
            intro p hp
            have h1 := NU.look_of_mem HP1.out.svs.ss hp
            obtain ⟨l', _, hr', h0'⟩ := HP1.out.svs.row h1
            obtain ⟨g', cap', hv', _⟩ := hr'.form h0'
            rw [hv']; rfl
          obtain ⟨w3, hcp, hown3, hg3⟩ := copy_up (w.heap.size + 1) g2 cap2 (0) S' _ _ w2.drew hown2.out (by omega) HONE
          replace hown3 := Lib.hid hown3
          have hg3' : Hid (w2.grownBy w3 (some g2)) := Lib.hid ⟨hg3.os, hg3.tape, hg3.output, hg3.size, hg3.block⟩
          have hcp0 : ∀ ty, (Builtin.copy_ #[24, 24] ty #[.slice (if cap2 = 1 then some ⟨g2, 0, none⟩ else some ⟨g2, 2, none⟩) S'.length (cap2 - 1), .slice (some ⟨g2, 0, none⟩) (S'.length + 1) cap2]).run Tryd.prog w2.drew = .ok (goInt ((S'.length : Nat) : Int)) w3 := fun ty => by have := hcp ty; simpa using this
          clear hcp HONE hg3
          have hsz2 : w1.heap.size ≤ w2.heap.size := hg2.out.size
          have hsz3 : w2.heap.size ≤ w3.heap.size := hg3'.out.size
          have hB3 : w.heap.size + 1 ≤ w3.heap.size := by omega
          have hrl3 : Hid (SRow B w3 (.slice (some ⟨gl, 0, none⟩) l.length capl) l) := by
            have hgl := hglt.out
            have h2 := hb2.out
            refine (hrl1.out.kept hg2.out ?_).kept hg3'.out (.inr (by simp [Value.ownBlock]; omega))
            right
            have hb := hP1b.out
            intro e
            have h3 := hb gl (by rw [← e]; rfl)
            omega
          replace hg2 := hg2
          go_region
          all_goals go_wp2_with (first
            | (at_builtin; refine wpList_sclone rfl _ _ rfl (w.heap.size + 1) B gl capl l w3 hB3 (by omega) rfl hrl3 hl0.out rfl ?_; intro g3 cap3 w4 hr4 hg4 hloc4; replace hr4 := Lib.hid hr4; replace hg4 := Lib.hid hg4; replace hloc4 := Lib.hid hloc4; have ho4 := Lib.hid (hown3.out.kept hg4.out (by simp [Value.ownBlock])); obtain ⟨z1, hz1⟩ := Option.isSome_iff_exists.1 (ownsRow_some ho4.out ((0) * 2) (by omega)); obtain ⟨z2, hz2⟩ := Option.isSome_iff_exists.1 (ownsRow_some ho4.out ((0) * 2 + 1) (by omega)); have fz1 := ownsRow_frozen ho4.out ((0) * 2); have fz2 := ownsRow_frozen ho4.out ((0) * 2 + 1))
            | fail)
          have HRn : Hid (((w4.setCell ⟨g2, (0) * 2, none⟩ (.string key)).setCell ⟨g2, (0) * 2 + 1, none⟩ (.slice (some ⟨g3, 0, none⟩) l.length cap3)).ranges Tryd.prog 9 Rsl b w.heap.size n (dmap S) (fun z => left z && !z.sameKey (.string (L key))) cnt1) := by
            have h2 := hb2.out
            have hbne : ∀ x, x ≤ w.heap.size → some x ≠ some g2 := fun x hx e => by cases e; omega
            have hbne2 : ∀ x, x ≤ w.heap.size → some x ≠ (Value.slice ao S'.length cap).ownBlock := fun x hx e => by have := hP1b.out x e.symm; omega
            exact ((((hrg1.out.kept hg2.out (hbne2 b (by omega)) (hbne2 _ (Nat.le_refl _))).kept hg3'.out (hbne b (by omega)) (hbne _ (Nat.le_refl _))).kept hg4.out (by simp) (by simp)).kept (setCell_grown _ _ _ _) (hbne b (by omega)) (hbne _ (Nat.le_refl _))).kept (setCell_grown _ _ _ _) (hbne b (by omega)) (hbne _ (Nat.le_refl _))
          have HFn : Hid (Fr w ((w4.setCell ⟨g2, (0) * 2, none⟩ (.string key)).setCell ⟨g2, (0) * 2 + 1, none⟩ (.slice (some ⟨g3, 0, none⟩) l.length cap3))) := by
            have h2 := hb2.out
            have hz0 : w.heap.size ≤ wr.heap.size := by have := HZ.out; omega
            have f1 : Below w.heap.size w w1 := Below.grown HF.out hg1.out hz0 (fun j hj => by cases hj; exact Nat.le_refl _)
            have f2 := f1.grown hg2.out (by omega) (fun j hj => by have := hP1b.out j hj; omega)
            have f3 := f2.grown hg3'.out (by omega) (fun j hj => by cases hj; omega)
            have f4 := f3.grown hg4.out (by omega) (fun j hj => by cases hj)
            exact Fr.setCell (Fr.setCell f4 (by show w.heap.size ≤ g2; omega) _) (by show w.heap.size ≤ g2; omega) _
          have hfin := pairs_fin (k := 0) HP1.out (by omega) hg2.out hloc2.out hown3.out hg3'.out hr4.out hl0.out hg4.out hloc4.out (by omega) HLow.out HK.out
          have hsz4 : w3.heap.size ≤ w4.heap.size := hg4.out.size
          simp only [Nat.zero_mul, Nat.zero_add] at HRn HFn hfin
          go_roundw
          case rel =>
            refine ⟨_, cnt1, _, _, HRn, HFn, ?_, hfin.1, met_new HM.out HP1.out.svs.sm hlM.out, ?_, some ⟨g2, 0, none⟩, cap2, ?_, .inr ⟨g2, rfl⟩⟩
            · show _ ≤ _; simp only [World.setCell, Array.size_modify]; omega
            · show _ ≤ _; rw [hfin.2]; have := HC.out; omega
            · rw [hfin.2]
          case measure => rw [HRn.out.left_eq, HR.out.left_eq]; exact hcnt
        · obtain ⟨m, rfl⟩ : ∃ m, k = m + 1 := ⟨k - 1, by omega⟩
          have hm : m < S'.length := by omega
          obtain ⟨g, rfl⟩ : ∃ g, ao = some ⟨g, 0, none⟩ := by
            rcases HA.out with ⟨_, h⟩ | h
            · rw [h] at hm; simp at hm
            · exact h
          obtain ⟨xk, hxk⟩ : ∃ xk : ByteArray, xk = mk S'[m].1 := ⟨_, rfl⟩
          have HXL : Hid (L xk = S'[m].1) := by show _ = _; rw [hxk, L_mk]
          have c0 : w1.cell? ⟨g, m * 2, none⟩ = some (.string xk) := by rw [hxk]; exact ownsRow_cell HP1.out.own (m * 2) _ (pCells_key S' m hm).1
          clear hxk
          by_cases hlt : NU.lt (L key) (L xk) = true
          · have q1 : Op.bytesLess xk.toList key.toList = false := by rw [Lib.toList_data, Lib.toList_data, less_lt]; exact NU.lt_asymm _ _ hlt
            have q2 : (xk.toList == key.toList) = false := by rw [Lib.toList_data, Lib.toList_data]; simpa using (NU.lt_ne hlt).symm
            have HK2 : Hid (∀ (j : Nat) (h : j < S'.length), m ≤ j → NU.lt (L key) S'[j].1 = true) := by
              intro j h hj
              by_cases e : j = m
              · subst e; rw [← HXL.out]; exact hlt
              · exact HK.out j h (by omega)
            clear hlt
            go_wp2_with fail
            go_round
            case rel => exact ⟨m, by omega, by go_num, HK2⟩
            case measure => simp [intOf]
          · have hne : L xk ≠ L key := by
              intro e
              have h1 := NU.look_of_mem HP1.out.svs.ss (List.getElem_mem hm)
              rw [← HXL.out, e] at h1
              have h2 := HP1.out.svs.same (L key)
              rw [h1, hnew.out] at h2; cases h2
            have hlt2 : NU.lt (L xk) (L key) = true := by
              rcases NU.lt_total _ _ hne with h | h
              · exact h
              · exact absurd h hlt
            have q1 : Op.bytesLess xk.toList key.toList = true := by rw [Lib.toList_data, Lib.toList_data, less_lt]; exact hlt2
            have HLow : Hid (∀ (j : Nat) (h : j < S'.length), j < m + 1 → NU.lt S'[j].1 (L key) = true) := by
              intro j h hj
              by_cases e : j = m
              · subst e; rw [← HXL.out]; exact hlt2
              · have h1 := List.pairwise_iff_getElem.1 HP1.out.svs.ss j m h hm (by omega)
                rw [← HXL.out] at h1
                exact NU.lt_trans _ _ _ h1 hlt2
            clear hlt hlt2 hne
            go_wp2_with (first
              | (at_builtin; refine wpList_ppush rfl _ _ rfl (w.heap.size + 1) (.slice (some ⟨g, 0, none⟩) S'.length cap) S'.length (pCells S') _ _ rfl rfl w1 hB1 (by omega) rfl (Lib.hid HP1.out.own) rfl ?_; intro g2 cap2 w2 hown2 hg2 hloc2 hb2; replace hown2 := Lib.hid hown2; replace hg2 := Lib.hid hg2; replace hloc2 := Lib.hid hloc2; replace hb2 := Lib.hid hb2)
              | fail)
            have hcap2 : S'.length + 1 ≤ cap2 ∧ cap2 ≤ maxLen := by
              rcases hown2.out.2 with ⟨hv, _⟩ | ⟨g', cap', cur, hv, _, _, h1, h2, _⟩
              · cases hv
              · cases hv; exact ⟨h1, h2⟩
            obtain ⟨hcap2, hcap3⟩ := hcap2
            unfold maxLen at hcap3
            have HONE : ∀ p ∈ S', p.2.oneCell' = true := by
              intro p hp
              have h1 := NU.look_of_mem HP1.out.svs.ss hp
              obtain ⟨l', _, hr', h0'⟩ := HP1.out.svs.row h1
              obtain ⟨g', cap', hv', _⟩ := hr'.form h0'
              rw [hv']; rfl
            obtain ⟨w3, hcp, hown3, hg3⟩ := copy_up (w.heap.size + 1) g2 cap2 (m + 1) S' _ _ w2.drew hown2.out (by omega) HONE
            replace hown3 := Lib.hid hown3
            have hg3' : Hid (w2.grownBy w3 (some g2)) := Lib.hid ⟨hg3.os, hg3.tape, hg3.output, hg3.size, hg3.block⟩
            have hcp0 : ∀ ty, (Builtin.copy_ #[24, 24] ty #[.slice (if cap2 = m + 1 + 1 then some ⟨g2, 0, none⟩ else some ⟨g2, (m + 1 + 1) * 2, none⟩) (S'.length + 1 - (m + 1 + 1)) (cap2 - (m + 1 + 1)), .slice (some ⟨g2, (m + 1) * 2, none⟩) (S'.length - m) (cap2 - (m + 1))]).run Tryd.prog w2.drew = .ok (goInt ((S'.length - (m + 1) : Nat) : Int)) w3 := fun ty => by
              have := hcp ty
              have e1 : S'.length + 1 - (m + 1 + 1) = S'.length - (m + 1) := by omega
              have e2 : S'.length - m = S'.length + 1 - (m + 1) := by omega
              have e3 : m + 1 + 1 = m + 1 + 1 := by omega
              have e4 : (m + 1 + 1) * 2 = (m + 1 + 1) * 2 := by omega
              have e5 : cap2 - (m + 1 + 1) = cap2 - (m + 1 + 1) := by omega
              rw [e1, e2, e4, e5]
              exact this
            have hcp1 : ∀ ty, (Builtin.copy_ #[24, 24] ty #[.slice (if cap2 = m + 1 + 1 then some ⟨g2, 0, none⟩ else some ⟨g2, (m + 1 + 1) * 2, none⟩) (S'.length - (m + 1)) (cap2 - (m + 1 + 1)), .slice (some ⟨g2, (m + 1) * 2, none⟩) (S'.length - m) (cap2 - (m + 1))]).run Tryd.prog w2.drew = .ok (goInt ((S'.length - (m + 1) : Nat) : Int)) w3 := fun ty => by
              have := hcp ty
              have e1 : S'.length - (m + 1) = S'.length - (m + 1) := by omega
              have e2 : S'.length - m = S'.length + 1 - (m + 1) := by omega
              have e3 : m + 1 + 1 = m + 1 + 1 := by omega
              have e4 : (m + 1 + 1) * 2 = (m + 1 + 1) * 2 := by omega
              have e5 : cap2 - (m + 1 + 1) = cap2 - (m + 1 + 1) := by omega
              rw [e1, e2, e4, e5]
              exact this
            clear hcp HONE hg3
            have hsz2 : w1.heap.size ≤ w2.heap.size := hg2.out.size
            have hsz3 : w2.heap.size ≤ w3.heap.size := hg3'.out.size
            have hB3 : w.heap.size + 1 ≤ w3.heap.size := by omega
            have hrl3 : Hid (SRow B w3 (.slice (some ⟨gl, 0, none⟩) l.length capl) l) := by
              have hgl := hglt.out
              have h2 := hb2.out
              refine (hrl1.out.kept hg2.out ?_).kept hg3'.out (.inr (by simp [Value.ownBlock]; omega))
              right
              have hb := hP1b.out
              intro e
              have h3 := hb gl (by rw [← e]; rfl)
              omega
            replace hg2 := hg2
            go_region
            all_goals go_wp2_with (first
              | (at_builtin; refine wpList_sclone rfl _ _ rfl (w.heap.size + 1) B gl capl l w3 hB3 (by omega) rfl hrl3 hl0.out rfl ?_; intro g3 cap3 w4 hr4 hg4 hloc4; replace hr4 := Lib.hid hr4; replace hg4 := Lib.hid hg4; replace hloc4 := Lib.hid hloc4; have ho4 := Lib.hid (hown3.out.kept hg4.out (by simp [Value.ownBlock])); obtain ⟨z1, hz1⟩ := Option.isSome_iff_exists.1 (ownsRow_some ho4.out ((m + 1) * 2) (by omega)); obtain ⟨z2, hz2⟩ := Option.isSome_iff_exists.1 (ownsRow_some ho4.out ((m + 1) * 2 + 1) (by omega)); have fz1 := ownsRow_frozen ho4.out ((m + 1) * 2); have fz2 := ownsRow_frozen ho4.out ((m + 1) * 2 + 1))
              | fail)
            have HRn : Hid (((w4.setCell ⟨g2, (m + 1) * 2, none⟩ (.string key)).setCell ⟨g2, (m + 1) * 2 + 1, none⟩ (.slice (some ⟨g3, 0, none⟩) l.length cap3)).ranges Tryd.prog 9 Rsl b w.heap.size n (dmap S) (fun z => left z && !z.sameKey (.string (L key))) cnt1) := by
              have h2 := hb2.out
              have hbne : ∀ x, x ≤ w.heap.size → some x ≠ some g2 := fun x hx e => by cases e; omega
              have hbne2 : ∀ x, x ≤ w.heap.size → some x ≠ (Value.slice (some ⟨g, 0, none⟩) S'.length cap).ownBlock := fun x hx e => by have := hP1b.out x e.symm; omega
              exact ((((hrg1.out.kept hg2.out (hbne2 b (by omega)) (hbne2 _ (Nat.le_refl _))).kept hg3'.out (hbne b (by omega)) (hbne _ (Nat.le_refl _))).kept hg4.out (by simp) (by simp)).kept (setCell_grown _ _ _ _) (hbne b (by omega)) (hbne _ (Nat.le_refl _))).kept (setCell_grown _ _ _ _) (hbne b (by omega)) (hbne _ (Nat.le_refl _))
            have HFn : Hid (Fr w ((w4.setCell ⟨g2, (m + 1) * 2, none⟩ (.string key)).setCell ⟨g2, (m + 1) * 2 + 1, none⟩ (.slice (some ⟨g3, 0, none⟩) l.length cap3))) := by
              have h2 := hb2.out
              have hz0 : w.heap.size ≤ wr.heap.size := by have := HZ.out; omega
              have f1 : Below w.heap.size w w1 := Below.grown HF.out hg1.out hz0 (fun j hj => by cases hj; exact Nat.le_refl _)
              have f2 := f1.grown hg2.out (by omega) (fun j hj => by have := hP1b.out j hj; omega)
              have f3 := f2.grown hg3'.out (by omega) (fun j hj => by cases hj; omega)
              have f4 := f3.grown hg4.out (by omega) (fun j hj => by cases hj)
              exact Fr.setCell (Fr.setCell f4 (by show w.heap.size ≤ g2; omega) _) (by show w.heap.size ≤ g2; omega) _
            have hfin := pairs_fin (k := m + 1) HP1.out (by omega) hg2.out hloc2.out hown3.out hg3'.out hr4.out hl0.out hg4.out hloc4.out (by omega) HLow.out HK.out
            have hsz4 : w3.heap.size ≤ w4.heap.size := hg4.out.size
            go_roundw
            case rel =>
              refine ⟨_, cnt1, _, _, HRn, HFn, ?_, hfin.1, met_new HM.out HP1.out.svs.sm hlM.out, ?_, some ⟨g2, 0, none⟩, cap2, ?_, .inr ⟨g2, rfl⟩⟩
              · show _ ≤ _; simp only [World.setCell, Array.size_modify]; omega
              · show _ ≤ _; rw [hfin.2]; have := HC.out; omega
              · rw [hfin.2]
            case measure => rw [HRn.out.left_eq, HR.out.left_eq]; exact hcnt
end Go.Proofs.YtlholchmgheemaaDoor
