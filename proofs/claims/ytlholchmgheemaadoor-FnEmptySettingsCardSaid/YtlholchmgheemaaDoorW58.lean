import Derived.Test.YtlholchmgheemaaDoorW57
import Derived.Deep.AppendSrc
import Derived.Deep.RegionLaw
namespace Go.Proofs.YtlholchmgheemaaDoor
set_option linter.unusedVariables false
set_option linter.unusedSimpArgs false
open Go.RowKit Go.Maps

theorem upd_set {α : Type} (f : Option α → α) (key : List UInt8) (l : List (List UInt8 × α)) (k : Nat) (hk : k < l.length) (h1 : ∀ (j : Nat) (h : j < l.length), j < k → NU.lt l[j].1 key = true) (h2 : l[k].1 = key) :
    NU.upd f key l = l.take k ++ (key, f (some l[k].2)) :: l.drop (k + 1) := by
  induction l generalizing k with
  | nil => simp at hk
  | cons q r ih =>
    cases k with
    | zero =>
      have h2 : q.1 = key := h2
      rw [NU.upd, if_neg (by rw [h2, NU.lt_irrefl]; simp), if_pos h2]; rfl
    | succ k =>
      have h := h1 0 (by simp) (by omega)
      have h : NU.lt q.1 key = true := h
      rw [NU.upd, if_pos h, ih k (by simpa using hk) (fun j hj hjk => h1 (j + 1) (by simpa using hj) (by omega)) (by simpa using h2)]; rfl
theorem pCells_put (S : SL) (k : Nat) (hk : k < S.length) (v : Value) : pCells (S.take k ++ (S[k].1, v) :: S.drop (k + 1)) = (pCells S).set (k * 2 + 1) v := by
  induction S generalizing k with
  | nil => simp at hk
  | cons p r ih =>
    cases k with
    | zero => simp [pCells_cons]
    | succ k =>
      have := ih k (by simpa using hk)
      rw [List.take_succ_cons, List.drop_succ_cons, List.cons_append, pCells_cons, pCells_cons]
      simp only [List.getElem_cons_succ] at this ⊢
      rw [this, show (k + 1) * 2 + 1 = (k * 2 + 1) + 1 + 1 by omega]; simp
theorem upd_same {α : Type} (f g : Option α → α) (k : List UInt8) (l : List (List UInt8 × α)) (hs : NU.Srt l) (h : f (NU.look k l) = g (NU.look k l)) : NU.upd f k l = NU.upd g k l := by
  refine NU.srt_ext (NU.srt_upd _ _ _ hs) (NU.srt_upd _ _ _ hs) (fun k' => ?_)
  rw [NU.look_upd _ _ _ _ hs, NU.look_upd _ _ _ _ hs, h]
/-- What an insertion leaves. -/
structure InsPost (B : Nat) (w : World) (S : SL) (k : Nat) (key x : ByteArray) (g n cap : Nat) (w4 : World) : Prop where
  len : n = S.length + 1
  own : w4.ownsRow B 40 2 (psl g n cap) n (pCells (S.take k) ++ .string key :: .slice (some ⟨w.heap.size, 0, none⟩) 1 1 :: pCells (S.drop k))
  grown : w.grownBy w4 none
  row : SRow B w4 (.slice (some ⟨w.heap.size, 0, none⟩) 1 1) [L x]
  new : w.heap.size < g
abbrev insW (w : World) (key x : ByteArray) : World := ((w.alloc (.cells #[.string x] 9)).alloc (.cells #[.string key, .slice (some ⟨w.heap.size, 0, none⟩) 1 1] 40)).drew
theorem insW_grown (w : World) (key x : ByteArray) : w.grownBy (insW w key x) none :=
  (World.grownBy_alloc w _ none).trans ((World.grownBy_alloc _ _ none).trans ⟨rfl, rfl, rfl, Nat.le_refl _, fun _ _ _ => rfl⟩)
theorem insW_row (B : Nat) (w : World) (hB : B ≤ w.heap.size) (key x : ByteArray) : SRow B (insW w key x) (.slice (some ⟨w.heap.size, 0, none⟩) 1 1) [L x] := by
  have b1 := (Blk.new w 9 #[.string x]).alloc (.cells #[.string key, .slice (some ⟨w.heap.size, 0, none⟩) 1 1] 40)
  refine ⟨rfl, .inr ⟨w.heap.size, 1, #[.string x], rfl, hB, b1, by simp, by unfold maxLen; omega, rfl, ?_⟩⟩
  simp [sCells, mk_L]
theorem insW_pair (B : Nat) (w : World) (hB : B ≤ w.heap.size) (key x : ByteArray) : (insW w key x).ownsRow B 40 2 (psl (w.heap.size + 1) 1 1) 1 [.string key, .slice (some ⟨w.heap.size, 0, none⟩) 1 1] := by
  have b2 : Blk ((w.alloc (.cells #[.string x] 9)).alloc (.cells #[.string key, .slice (some ⟨w.heap.size, 0, none⟩) 1 1] 40)) (w.heap.size + 1) 40 #[.string key, .slice (some ⟨w.heap.size, 0, none⟩) 1 1] := (by rw [show w.heap.size + 1 = (w.alloc (.cells #[.string x] 9)).heap.size by simp]; exact Blk.new _ _ _)
  exact ⟨rfl, .inr ⟨w.heap.size + 1, 1, _, rfl, by omega, b2, Nat.le_refl _, by unfold maxLen; omega, rfl, rfl⟩⟩
theorem insW_size (w : World) (key x : ByteArray) : (insW w key x).heap.size = w.heap.size + 2 := by simp [insW, World.drew]
/-- An append onto a slice without room. -/
theorem append_lim (B : Nat) (W : World) (hB : B ≤ W.heap.size) (b : Addr) (k : Nat) (olds : List Value) (hlo : olds.length = k * 2) (holds : ∀ j v, olds[j]? = some v → W.cell? (b.add j) = some v)
    (a : Addr) (m c : Nat) (news : List Value) (hl : news.length = m * 2) (hnews : ∀ j v, news[j]? = some v → W.cell? (a.add j) = some v) (hm : 0 < m) (hkm : k + m ≤ 1000000) :
    ∃ cap w', (Builtin.append_ #[24, 24] 24 #[.slice (some b) k k, .slice (some a) m c]).run Tryd.prog W = .ok (psl W.heap.size (k + m) cap) w' ∧ w'.ownsRow B 40 2 (psl W.heap.size (k + m) cap) (k + m) (olds ++ news) ∧ W.grownBy w' none := by
  obtain ⟨i0, hi, hz0, hz1, hz2⟩ := info_parts infoPair
  have hr := run_append_grow (P := Tryd.prog) W 24 24 40 i0 _ Tryd.underlying24 hi hz0 b k k olds (by rw [hz1]; exact hlo) holds a m c news (by rw [hz1]; exact hl) hnews (by omega) (by omega)
    (growslice_fits (by omega) (by rw [hz2]; omega))
  refine ⟨_, _, hr, ⟨by rw [List.length_append, hlo, hl]; omega, .inr ⟨W.heap.size, _, _, rfl, hB, heap_alloc_new W.drew _, grownCap_ge _ _ _ _, grownCap_le_maxLen _ _ _ _ (by unfold maxLen; omega), ?_, ?_⟩⟩, ⟨rfl, rfl, rfl, by simp, fun k hk _ => Below.heap_alloc W.drew _ k hk⟩⟩
  · have := grownCap_ge W (k + m) k 40
    simp only [Array.size_append, List.size_toArray, size_zeroCells, hlo, hl]
    show k * 2 + m * 2 + (grownCap W (k + m) k 40 - (k + m)) * 2 = _
    omega
  · simp only [Array.toList_append, List.append_assoc]
    rw [← List.append_assoc, show (k + m) * 2 = (olds ++ news).length by rw [List.length_append, hlo, hl]; omega]
    exact List.take_left
theorem append_nilP (B : Nat) (W : World) (hB : B ≤ W.heap.size) (a : Addr) (m c : Nat) (news : List Value) (hl : news.length = m * 2) (hnews : ∀ j v, news[j]? = some v → W.cell? (a.add j) = some v) (hm : 0 < m) (hkm : m ≤ 1000000) :
    ∃ cap w', (Builtin.append_ #[24, 24] 24 #[.slice none 0 0, .slice (some a) m c]).run Tryd.prog W = .ok (psl W.heap.size m cap) w' ∧ w'.ownsRow B 40 2 (psl W.heap.size m cap) m news ∧ W.grownBy w' none := by
  obtain ⟨i0, hi, hz0, hz1, hz2⟩ := info_parts infoPair
  have hr := run_append_nil (P := Tryd.prog) W 24 24 40 i0 _ Tryd.underlying24 hi hz0 a m c news (by rw [hz1]; exact hl) hnews hm (by omega) (by rw [hz2]; omega)
  refine ⟨_, _, hr, ⟨hl, .inr ⟨W.heap.size, _, _, rfl, hB, heap_alloc_new W.drew _, grownCap_ge _ _ _ _, grownCap_le_maxLen _ _ _ _ (by unfold maxLen; omega), ?_, ?_⟩⟩, ⟨rfl, rfl, rfl, by simp, fun k hk _ => Below.heap_alloc W.drew _ k hk⟩⟩
  · have := grownCap_ge W m 0 40
    simp only [Array.size_append, List.size_toArray, size_zeroCells, hl]
    show m * 2 + (grownCap W m 0 40 - m) * 2 = _
    omega
  · simp only [Array.toList_append]
    rw [show m * 2 = news.length from hl.symm]
    exact List.take_left
/-- An append whose run is known, as a step of a region that draws. -/
theorem step_append_run {ops : Array Oper} {o : Oper} {a : Act} {W W' : World} {K : Act → World → Prop} {Q : Exit → Act → World → Prop} {E : Prop} (hg : o.guard = none) (s x : Operand)
    (hop : o.op = Op.call { callee := Callee.builtin Builtin.append, args := #[s, x], argTypes := #[24, 24] }) (hty : o.type = 24) (sv xv v : Value) (hs : a.eval s = sv) (hx : a.eval x = xv)
    (hrun : (Builtin.append_ #[24, 24] 24 #[sv, xv]).run Tryd.prog W = .ok v W') (hk : K (a.put o.dst v) W') :
    if Region.wanted o (yielded ops a.tmps) = true then Oper.wp Tryd.prog o a W K Q else E := by
  have hw : Region.wanted o (yielded ops a.tmps) = true := by simp [Region.wanted, hg]
  rw [if_pos hw]
  unfold Oper.wp
  simp [execOp, hop, hty, resolve, invoke, builtin, hs, hx, hrun, Result.andThen]
  exact hk
theorem one_cells {S : SL} (HONE : ∀ p ∈ S, p.2.oneCell' = true) : ∀ u ∈ pCells S, u.oneCell' = true := by
  intro u hu
  unfold pCells at hu
  obtain ⟨p, hpS, hp⟩ := List.mem_flatMap.1 hu
  simp at hp
  rcases hp with rfl | rfl
  · rfl
  · exact HONE p hpS
theorem ins_app (B g cap k : Nat) (S : SL) (key x : ByteArray) (w : World) (hB : B ≤ w.heap.size) (hown : w.ownsRow B 40 2 (psl g S.length cap) S.length (pCells S)) (hk : k ≤ S.length) (hN : S.length ≤ 10000) (HONE : ∀ p ∈ S, p.2.oneCell' = true) :
    ∃ g3 n3 cap3 w3 g4 n4 cap4 w4,
      (Builtin.append_ #[24, 24] 24 #[psl (w.heap.size + 1) 1 1, .slice (if cap = k then some ⟨g, 0, none⟩ else some ⟨g, k * 2, none⟩) (S.length - k) (cap - k)]).run Tryd.prog (insW w key x) = .ok (psl g3 n3 cap3) w3 ∧
      (Builtin.append_ #[24, 24] 24 #[psl g k k, psl g3 n3 cap3]).run Tryd.prog w3 = .ok (psl g4 n4 cap4) w4 ∧ InsPost B w S k key x g4 n4 cap4 w4 := by
  have hl := pCells_len S
  obtain ⟨i0, hi, hz0, hz1, hz2⟩ := info_parts infoPair
  have hgl := hown.lt g rfl
  have hg1 := insW_grown w key x
  have hownW := hown.kept hg1 (.inr (by simp [Value.ownBlock]))
  obtain ⟨ad, had, hnews⟩ : ∃ ad, (if cap = k then some (⟨g, 0, none⟩ : Addr) else some ⟨g, k * 2, none⟩) = some ad ∧ ∀ j v, (pCells (S.drop k))[j]? = some v → (insW w key x).cell? (ad.add j) = some v := by
    by_cases hc : cap = k
    · refine ⟨⟨g, 0, none⟩, by rw [if_pos hc], fun j v hj => ?_⟩
      have hN0 : S.length ≤ k := by
        rcases hown.2 with ⟨hv, _⟩ | ⟨g', cap', cur, hv, _, _, h1, _⟩
        · cases hv
        · cases hv; omega
      rw [List.drop_eq_nil_of_le hN0] at hj; simp [pCells] at hj
    · refine ⟨⟨g, k * 2, none⟩, by rw [if_neg hc], fun j v hj => ?_⟩
      rw [pCells_drop, List.getElem?_drop] at hj
      have := ownsRow_cell hownW (k * 2 + j) v hj
      rw [show (⟨g, k * 2, none⟩ : Addr).add j = ⟨g, k * 2 + j, none⟩ by unfold Addr.add; split <;> simp_all]
      exact this
  obtain ⟨v3, w3, hr3, hown3, hg3, _, hat3⟩ := run_append_own_at (P := Tryd.prog) (insW w key x) B 24 24 40 i0 _ 2 40 Tryd.underlying24 hi hz0 hz1 hz2 rfl (by decide) (psl (w.heap.size + 1) 1 1) 1 _ (insW_pair B w hB key x)
    ad (S.length - k) (cap - k) (pCells (S.drop k)) (by rw [pCells_len, List.length_drop]) hnews (one_cells (fun p hp => HONE p (List.mem_of_mem_drop hp))) (by unfold maxLen; omega) (by omega) (by rw [insW_size]; omega)
  obtain ⟨g3, cap3, hv3, hb3⟩ : ∃ g3 cap3, v3 = psl g3 (1 + (S.length - k)) cap3 ∧ B ≤ g3 := by
    rcases hown3.2 with ⟨_, h0⟩ | ⟨g3, cap3, cur, hv, hb, _⟩
    · omega
    · exact ⟨g3, cap3, hv, hb⟩
  subst hv3
  have hownG : w3.ownsRow B 40 2 (psl g S.length cap) S.length (pCells S) := hownW.kept hg3 (.inr (by simp [Value.ownBlock]; omega))
  have hsz3 : w.heap.size + 2 ≤ w3.heap.size := by have := hg3.size; rw [insW_size] at this; exact this
  obtain ⟨cap4, w4, hr4, hown4, hg4⟩ := append_lim B w3 (by omega) ⟨g, 0, none⟩ k (pCells (S.take k)) (by rw [pCells_len, List.length_take]; omega)
    (fun j v hj => by
      rw [pCells_take] at hj
      have hj' : (pCells S)[j]? = some v := by
        rw [List.getElem?_take] at hj
        split at hj
        · exact hj
        · cases hj
      exact hownG.cells rfl j v hj')
    ⟨g3, 0, none⟩ (1 + (S.length - k)) cap3 _ hown3.1 (hown3.cells rfl) (by omega) (by omega)
  refine ⟨g3, 1 + (S.length - k), cap3, w3, w3.heap.size, k + (1 + (S.length - k)), cap4, w4, by rw [had]; exact hr3, hr4, ⟨by omega, hown4, ?_, ?_, by omega⟩⟩
  · refine ⟨?_, ?_, ?_, ?_, ?_⟩
    · exact hg4.os.trans (hg3.os.trans hg1.os)
    · exact hg4.tape.trans (hg3.tape.trans hg1.tape)
    · exact hg4.output.trans (hg3.output.trans hg1.output)
    · exact Nat.le_trans hg1.size (Nat.le_trans hg3.size hg4.size)
    · intro j hj _
      rw [hg4.block j (by omega) (by simp), hg3.block j (by rw [insW_size]; omega) (by simp [Value.ownBlock]; omega), hg1.block j hj (by simp)]
  · exact ((insW_row B w hB key x).kept hg3 (.inr (by simp [Value.ownBlock]))).kept hg4 (.inr (by simp [Value.ownBlock]))
theorem ins_app0 (B : Nat) (key x : ByteArray) (w : World) (hB : B ≤ w.heap.size) :
    ∃ g4 n4 cap4 w4,
      (Builtin.append_ #[24, 24] 24 #[psl (w.heap.size + 1) 1 1, .slice none 0 0]).run Tryd.prog (insW w key x) = .ok (psl (w.heap.size + 1) 1 1) (insW w key x) ∧
      (Builtin.append_ #[24, 24] 24 #[.slice none 0 0, psl (w.heap.size + 1) 1 1]).run Tryd.prog (insW w key x) = .ok (psl g4 n4 cap4) w4 ∧ InsPost B w [] 0 key x g4 n4 cap4 w4 := by
  obtain ⟨i0, hi, hz0, hz1, hz2⟩ := info_parts infoPair
  have hg1 := insW_grown w key x
  have ho := insW_pair B w hB key x
  obtain ⟨cap4, w4, hr4, hown4, hg4⟩ := append_nilP B (insW w key x) (by rw [insW_size]; omega) ⟨w.heap.size + 1, 0, none⟩ 1 1 _ ho.1 (ho.cells rfl) (by omega) (by omega)
  refine ⟨_, 1, cap4, w4, ?_, hr4, ⟨rfl, hown4, hg1.trans hg4, (insW_row B w hB key x).kept hg4 (.inr (by simp [Value.ownBlock])), by rw [insW_size]; omega⟩⟩
  have := run_append_room_src (P := Tryd.prog) (insW w key x) 24 24 24 40 i0 Tryd.underlying24 hi (w.heap.size + 1) 0 1 1 (.slice none 0 0) 0 [] (Src.ofNil _ Tryd.underlying24 0) (by omega) (fun j hj => by simp at hj) (fun j hj => by simp at hj)
  simpa [World.setCells] using this
/-- A pair with one string more. -/
theorem put_ins {B k g n cap : Nat} {w w4 : World} {v : Value} {S : SL} {M : NU.QM} {key x : ByteArray} (hP : Pairs B w v S M) (hI : InsPost B w S k key x g n cap w4) (hk : k ≤ S.length)
    (h1 : ∀ (j : Nat) (h : j < S.length), j < k → NU.lt S[j].1 (L key) = true) (h2 : ∀ (j : Nat) (h : j < S.length), k ≤ j → NU.lt (L key) S[j].1 = true) :
    Pairs B w4 (psl g n cap) (NU.upd (fun _ => .slice (some ⟨w.heap.size, 0, none⟩) 1 1) (L key) S) (NU.qput (L key) (L x) M) := by
  have hup := upd_at (fun _ => Value.slice (some ⟨w.heap.size, 0, none⟩) 1 1) (L key) S k hk h1 h2
  have hno : NU.look (L key) S = none := by
    refine NU.look_none (fun p hp => ?_)
    obtain ⟨j, hj, rfl⟩ := List.mem_iff_getElem.1 hp
    by_cases hjk : j < k
    · exact NU.lt_ne (h1 j hj hjk)
    · exact (NU.lt_ne (h2 j hj (by omega))).symm
  have hnoM : NU.look (L key) M = none := by
    have := hP.svs.same (L key)
    rw [hno] at this
    cases h0 : NU.look (L key) M with
    | none => rfl
    | some _ => rw [h0] at this; cases this
  have hq : NU.qput (L key) (L x) M = NU.upd (fun _ => [L x]) (L key) M := upd_same _ _ _ _ hP.svs.sm (by rw [hnoM]; rfl)
  have s := hP.svs.ins (L key) (.slice (some ⟨w.heap.size, 0, none⟩) 1 1) [L x] (by simp) hI.grown hI.row rfl (Nat.le_refl _)
  rw [← hq] at s
  have hlen : (NU.upd (fun _ => Value.slice (some ⟨w.heap.size, 0, none⟩) 1 1) (L key) S).length = n := by
    rw [hup, List.length_append, List.length_cons, List.length_take, List.length_drop, hI.len]; omega
  refine ⟨?_, s, fun k' u hu => ?_⟩
  · rw [hlen, hup, pCells_app, pCells_cons, mk_L]; exact hI.own
  · rw [NU.look_upd _ _ _ _ hP.svs.ss] at hu
    split at hu
    · cases hu
      have := hI.new
      simp [Value.ownBlock]; omega
    · obtain ⟨g', hg', _, hlt⟩ := hP.svs.blk hu
      have := hI.new
      rw [hg']; simp [Value.ownBlock]; omega
theorem Pairs.one {B : Nat} {w : World} {v : Value} {S : SL} {M : NU.QM} (hP : Pairs B w v S M) : ∀ p ∈ S, p.2.oneCell' = true := by
  intro p hp
  have h1 := NU.look_of_mem hP.svs.ss hp
  obtain ⟨l', _, hr', h0'⟩ := hP.svs.row h1
  obtain ⟨g', cap', hv', _⟩ := hr'.form h0'
  rw [hv']; rfl
/-- A string more at a key that is there. -/
theorem put_at {B k g cap gu capu g2 cap2 : Nat} {w w2 : World} {S : SL} {M : NU.QM} {key x : ByteArray} {l : List (List UInt8)} (hP : Pairs B w (psl g S.length cap) S M) (hB : B ≤ w.heap.size) (hk : k < S.length)
    (h1 : ∀ (j : Nat) (h : j < S.length), j < k → NU.lt S[j].1 (L key) = true) (he : S[k].1 = L key) (hu : S[k].2 = .slice (some ⟨gu, 0, none⟩) l.length capu) (hl : NU.look (L key) M = some l)
    (hr2 : SRow B w2 (.slice (some ⟨g2, 0, none⟩) (l.length + 1) cap2) (l ++ [L x])) (hg2 : w.grownBy w2 (some gu)) (hloc : some gu = some g2 ∨ w.heap.size ≤ g2) :
    Pairs B (w2.setCell ⟨g, k * 2 + 1, none⟩ (.slice (some ⟨g2, 0, none⟩) (l.length + 1) cap2)) (psl g S.length cap) (NU.upd (fun _ => .slice (some ⟨g2, 0, none⟩) (l.length + 1) cap2) (L key) S) (NU.qput (L key) (L x) M) ∧ Below B w (w2.setCell ⟨g, k * 2 + 1, none⟩ (.slice (some ⟨g2, 0, none⟩) (l.length + 1) cap2)) := by
  have hlk : NU.look (L key) S = some (.slice (some ⟨gu, 0, none⟩) l.length capu) := by
    have := NU.look_of_mem hP.svs.ss (List.getElem_mem hk)
    rw [he, hu] at this; exact this
  have hgu : gu ≠ g := by
    have := hP.off _ _ hlk
    intro e; exact this (by rw [e]; rfl)
  have hgub := (hP.svs.rows _ _ _ hlk hl).1.lt rfl
  have hgb := hP.own.lt g rfl
  have s2 := hP.svs.put (L key) (L x) (.slice (some ⟨g2, 0, none⟩) (l.length + 1) cap2) (v := .slice (some ⟨gu, 0, none⟩) l.length capu) (l := l) (by rw [hlk]; rfl) (by rw [hl]; rfl) hg2 hr2 rfl hloc
  have ne : ∀ k' u, NU.look k' (NU.upd (fun _ => Value.slice (some ⟨g2, 0, none⟩) (l.length + 1) cap2) (L key) S) = some u → u.ownBlock ≠ some g := by
    intro k' u hu'
    rw [NU.look_upd _ _ _ _ hP.svs.ss] at hu'
    split at hu'
    · cases hu'
      rcases hloc with h | h
      · cases h; simp [Value.ownBlock]; exact hgu
      · simp [Value.ownBlock]; omega
    · exact hP.off k' u hu'
  have hup := upd_set (fun _ => Value.slice (some ⟨g2, 0, none⟩) (l.length + 1) cap2) (L key) S k hk h1 he
  have hlen : (NU.upd (fun _ => Value.slice (some ⟨g2, 0, none⟩) (l.length + 1) cap2) (L key) S).length = S.length := by
    rw [hup, List.length_append, List.length_cons, List.length_take, List.length_drop]; omega
  refine ⟨⟨?_, s2.kept (setCell_grown _ _ _ _) ne, ne⟩, ?_⟩
  · have o2 := hP.own.kept hg2 (.inr (by simp [Value.ownBlock]; exact fun e => hgu e.symm))
    have o3 := ownsRow_set o2 (k * 2 + 1) (.slice (some ⟨g2, 0, none⟩) (l.length + 1) cap2) (by rw [pCells_len]; omega)
    rw [hlen, hup, ← he, pCells_put S k hk]
    exact o3
  · exact ((Below.refl B w).grown hg2 hB (fun j hj => by cases hj; exact hgub.1)).setCell (p := ⟨g, k * 2 + 1, none⟩) hgb.1 _
end Go.Proofs.YtlholchmgheemaaDoor
