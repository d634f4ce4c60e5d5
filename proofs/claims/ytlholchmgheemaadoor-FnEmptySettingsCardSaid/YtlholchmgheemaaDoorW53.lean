import Derived.Test.YtlholchmgheemaaDoorW52
import Derived.Laws.IdiomCopy
import Derived.Sort.KeysCollected
import Derived.Outline
/-
  Slices of pairs of the call's own; the values as data, ordered by key.
-/
namespace Go.Proofs.YtlholchmgheemaaDoor
set_option linter.unusedVariables false
set_option linter.unusedSimpArgs false
open Go.RowKit Go.Maps

theorem infoPair : (Tryd.prog.info? 40).map (fun i => (i.zero, i.size, i.bytes)) = some (some (.agg #[.string ⟨#[]⟩, .slice none 0 0]), 2, 40) := by kernel_rfl
theorem sizePair : (Tryd.prog.info? 40).map (·.size) = some 2 := by kernel_rfl
/-- A copy of whole elements, of whatever size: all is read before anything is written. -/
theorem run_copy_sz {P : Program} (w : World) (dT sT ty elem : TypeId) (sz b o dLen dCap : Nat) (a : Addr) (sLen sCap : Nat) (cs : List Value)
    (hu : P.underlying dT = some (.slice elem)) (hs : (P.info? elem).map (·.size) = some sz) (hn : cs.length = Nat.min sLen dLen * sz)
    (hsrc : ∀ j v, cs[j]? = some v → w.cell? (a.add j) = some v) (hc : ∀ j, j < cs.length → (w.cell? ⟨b, o + j, none⟩).isSome = true) (hf : ∀ j, j < cs.length → w.frozen? ⟨b, o + j, none⟩ = false) (h1 : ∀ v ∈ cs, v.oneCell' = true) :
    (Builtin.copy_ #[dT, sT] ty #[.slice (some ⟨b, o, none⟩) dLen dCap, .slice (some a) sLen sCap]).run P w = .ok (goInt (Nat.min sLen dLen)) (w.setCells b o cs) := by
  have hl := run_loadCells_list (P := P) w a cs hsrc
  have hst := run_storeCells_cells (P := P) b o cs 0 w (by simpa using hc) (by simpa using hf) h1
  cases hq : P.info? elem with
  | none => simp [hq] at hs
  | some i =>
    have hi : i.size = sz := by simpa [hq] using hs
    simp [Builtin.copy_, run_underlying hu, Builtin.lenOf, Builtin.firstCells, sizeOf, typeInfo, hq, hi, ← hn, hl, hst]
section
variable {base e sz n cap g : Nat} {w : World} {xs : List Value}
theorem ownsRow_set (h : w.ownsRow base e sz (.slice (some ⟨g, 0, none⟩) n cap) n xs) (i : Nat) (u : Value) (hi : i < xs.length) : (w.setCell ⟨g, i, none⟩ u).ownsRow base e sz (.slice (some ⟨g, 0, none⟩) n cap) n (xs.set i u) := by
  refine ⟨by rw [List.length_set]; exact h.1, .inr ?_⟩
  rcases h.2 with ⟨hv, _⟩ | ⟨g', cap', cur, hv, hb, hg, hn, hc, hs, ht⟩
  · cases hv
  · cases hv
    refine ⟨g, cap, cur.setIfInBounds i u, rfl, hb, ?_, hn, hc, by simpa using hs, ?_⟩
    · simp [World.setCell, Array.getElem?_modify, hg]
    · rw [Array.toList_setIfInBounds, ← ht, List.take_set]
theorem ownsRow_setCells (ys : List Value) : ∀ {w : World} {xs : List Value} (o : Nat), w.ownsRow base e sz (.slice (some ⟨g, 0, none⟩) n cap) n xs → o + ys.length ≤ xs.length →
    (w.setCells g o ys).ownsRow base e sz (.slice (some ⟨g, 0, none⟩) n cap) n (xs.take o ++ ys ++ xs.drop (o + ys.length)) := by
  induction ys with
  | nil => intro w xs o h _; simpa [World.setCells] using h
  | cons y r ih =>
    intro w xs o h ho
    simp only [List.length_cons] at ho
    have h1 := ownsRow_set h o y (by omega)
    have h2 := ih (o + 1) h1 (by rw [List.length_set]; omega)
    have e : (xs.set o y).take (o + 1) ++ r ++ (xs.set o y).drop (o + 1 + r.length) = xs.take o ++ (y :: r) ++ xs.drop (o + (r.length + 1)) := by
      rw [List.take_succ_eq_append_getElem (by rw [List.length_set]; omega), List.getElem_set_self, List.take_set_of_le (Nat.le_refl _), List.drop_set_of_lt (by omega), show o + (r.length + 1) = o + 1 + r.length by omega]; simp
    rw [e] at h2
    exact h2
theorem ownsRow_cell (h : w.ownsRow base e sz (.slice (some ⟨g, 0, none⟩) n cap) n xs) (i : Nat) (u : Value) (hi : xs[i]? = some u) : w.cell? ⟨g, i, none⟩ = some u := by
  have := h.cells (g := g) rfl i u hi
  rw [show (⟨g, 0, none⟩ : Addr).add i = ⟨g, i, none⟩ by unfold Addr.add; split <;> simp_all] at this
  exact this
theorem ownsRow_frozen (h : w.ownsRow base e sz (.slice (some ⟨g, 0, none⟩) n cap) n xs) (i : Nat) : w.frozen? ⟨g, i, none⟩ = false := by
  rcases h.2 with ⟨hv, _⟩ | ⟨g', cap', cur, hv, hb, hg, hn, hc, hs, ht⟩
  · cases hv
  · cases hv; simp [World.frozen?, hg]
theorem ownsRow_some (h : w.ownsRow base e sz (.slice (some ⟨g, 0, none⟩) n cap) n xs) (i : Nat) (hi : i < n * sz) : (w.cell? ⟨g, i, none⟩).isSome = true := by
  rw [ownsRow_cell h i _ (List.getElem?_eq_getElem (by rw [h.1]; exact hi))]; rfl
end
theorem ownsRow_mono {base base' e sz n : Nat} {v : Value} {w : World} {xs : List Value} (h : w.ownsRow base e sz v n xs) (hb : base' ≤ base) : w.ownsRow base' e sz v n xs := by
  refine ⟨h.1, ?_⟩
  rcases h.2 with h1 | ⟨g, cap, cur, h1, h2, h3⟩
  · exact .inl h1
  · exact .inr ⟨g, cap, cur, h1, Nat.le_trans hb h2, h3⟩
theorem setCells_grown (b : Nat) : ∀ (ys : List Value) (o : Nat) (w : World), w.grownBy (w.setCells b o ys) (some b)
  | [], _, w => ⟨rfl, rfl, rfl, Nat.le_refl _, fun _ _ _ => rfl⟩
  | y :: r, o, w => by
    have h1 : w.grownBy (w.setCell ⟨b, o, none⟩ y) (some b) := ⟨rfl, rfl, rfl, by simp [World.setCell], fun k _ hk => Below.heap_setCell w ⟨b, o, none⟩ y k (fun e => hk (by rw [e]))⟩
    exact h1.trans (setCells_grown b r (o + 1) _)
theorem setCell_grown (w : World) (b o : Nat) (y : Value) : w.grownBy (w.setCell ⟨b, o, none⟩ y) (some b) := setCells_grown b [y] o w

/-! ### a slice of pairs -/
def pCells (S : SL) : List Value := S.flatMap fun p => [Value.string (mk p.1), p.2]
theorem pCells_len (S : SL) : (pCells S).length = S.length * 2 := by
  induction S with
  | nil => rfl
  | cons p r ih => rw [pCells, List.flatMap_cons, List.length_append, ← pCells, ih]; simp; omega
theorem pCells_app (S T : SL) : pCells (S ++ T) = pCells S ++ pCells T := by simp [pCells]
theorem pCells_cons (p : List UInt8 × Value) (S : SL) : pCells (p :: S) = .string (mk p.1) :: p.2 :: pCells S := by simp [pCells]
theorem pCells_key (S : SL) (i : Nat) (h : i < S.length) : (pCells S)[i * 2]? = some (.string (mk S[i].1)) ∧ (pCells S)[i * 2 + 1]? = some S[i].2 := by
  induction S generalizing i with
  | nil => simp at h
  | cons p r ih =>
    rw [pCells_cons]
    cases i with
    | zero => simp
    | succ i =>
      have := ih i (by simpa using h)
      rw [show (i + 1) * 2 = i * 2 + 1 + 1 by omega, show i * 2 + 1 + 1 + 1 = (i * 2 + 1) + 1 + 1 by omega]
      simpa using this
theorem pCells_drop (S : SL) (k : Nat) : pCells (S.drop k) = (pCells S).drop (k * 2) := by
  induction S generalizing k with
  | nil => simp [pCells]
  | cons p r ih =>
    cases k with
    | zero => simp
    | succ k => rw [List.drop_succ_cons, ih, pCells_cons, show (k + 1) * 2 = k * 2 + 1 + 1 by omega]; simp
theorem pCells_take (S : SL) (k : Nat) : pCells (S.take k) = (pCells S).take (k * 2) := by
  induction S generalizing k with
  | nil => simp [pCells]
  | cons p r ih =>
    cases k with
    | zero => simp [pCells]
    | succ k => rw [List.take_succ_cons, pCells_cons, ih, pCells_cons, show (k + 1) * 2 = k * 2 + 1 + 1 by omega]; simp
/-- A pair is laid in at place k: the cells behind it move up. -/
theorem pCells_insert (S : SL) (k : Nat) (hk : k ≤ S.length) (key : List UInt8) (v : Value) (e1 e2 : Value) :
    ((((pCells S ++ [e1, e2]).take ((k + 1) * 2) ++ (pCells S).drop (k * 2) ++ (pCells S ++ [e1, e2]).drop ((k + 1) * 2 + ((pCells S).drop (k * 2)).length)).set (k * 2) (.string (mk key))).set (k * 2 + 1) v) =
      pCells (S.take k ++ (key, v) :: S.drop k) := by
  have hl := pCells_len S
  rw [pCells_app, pCells_cons, pCells_take, pCells_drop]
  generalize pCells S = X at hl ⊢
  have hd : (X.drop (k * 2)).length = X.length - k * 2 := List.length_drop
  have hdd : (X ++ [e1, e2]).drop (S.length * 2 + 2) = [] := List.drop_eq_nil_of_le (by rw [List.length_append, hl]; simp)
  rw [hd, hl, show (k + 1) * 2 + (S.length * 2 - k * 2) = S.length * 2 + 2 by omega, hdd, List.append_nil]
  have ht : (X ++ [e1, e2]).take ((k + 1) * 2) = X.take (k * 2) ++ ((X ++ [e1, e2]).drop (k * 2)).take 2 := by
    rw [show (k + 1) * 2 = k * 2 + 2 by omega, List.take_add, List.take_append_of_le_length (by omega)]
  obtain ⟨a, b, hab⟩ : ∃ a b, ((X ++ [e1, e2]).drop (k * 2)).take 2 = [a, b] := by
    have h2 : (((X ++ [e1, e2]).drop (k * 2)).take 2).length = 2 := by
      rw [List.length_take, List.length_drop, List.length_append, hl]; simp; omega
    match h3 : ((X ++ [e1, e2]).drop (k * 2)).take 2, h2 with
    | [a, b], _ => exact ⟨a, b, rfl⟩
  have hlt : (X.take (k * 2)).length = k * 2 := by rw [List.length_take, hl]; omega
  rw [ht, hab, List.append_assoc, List.set_append_right _ _ (by omega), hlt, Nat.sub_self]
  rw [List.set_append_right _ _ (by omega), hlt, show k * 2 + 1 - k * 2 = 1 by omega]
  simp
abbrev psl (g n cap : Nat) : Value := .slice (some ⟨g, 0, none⟩) n cap
/-- v is a slice of pairs that was made since B: the slices S, which hold the strings M. -/
structure Pairs (B : Nat) (w : World) (v : Value) (S : SL) (M : NU.QM) : Prop where
  own : w.ownsRow B 40 2 v S.length (pCells S)
  svs : SVs B w S M
  off : ∀ k u, NU.look k S = some u → u.ownBlock ≠ v.ownBlock
theorem Pairs.nil (B : Nat) (w : World) : Pairs B w (.slice none 0 0) [] [] := ⟨World.ownsRow_nil _ _ _ _, SVs.nil _ _, fun _ _ h => (by cases h)⟩
theorem keys_unit (l : List (List UInt8 × Value)) (k : List UInt8) : NU.look k (l.map (fun p => (p.1, ()))) = (NU.look k l).map (fun _ => ()) := by
  induction l with
  | nil => rfl
  | cons p r ih =>
    rw [List.map_cons, NU.look, NU.look]
    by_cases e : p.1 = k
    · rw [if_pos e, if_pos e]; rfl
    · rw [if_neg e, if_neg e]; exact ih
theorem keys_unit' (l : NU.QM) (k : List UInt8) : NU.look k (l.map (fun p => (p.1, ()))) = (NU.look k l).map (fun _ => ()) := by
  induction l with
  | nil => rfl
  | cons p r ih =>
    rw [List.map_cons, NU.look, NU.look]
    by_cases e : p.1 = k
    · rw [if_pos e, if_pos e]; rfl
    · rw [if_neg e, if_neg e]; exact ih
section
variable {B : Nat} {w w' : World} {S : SL} {M : NU.QM} {v : Value}
theorem SVs.keys (h : SVs B w S M) : S.map (fun p => (p.1, ())) = M.map (fun p => (p.1, ())) := by
  refine NU.srt_ext ?_ ?_ (fun k => ?_)
  · exact List.pairwise_map.2 h.ss
  · exact List.pairwise_map.2 h.sm
  · rw [keys_unit, keys_unit']
    have := h.same k
    cases h1 : NU.look k S <;> cases h2 : NU.look k M <;> rw [h1, h2] at this <;> first | rfl | cases this
theorem SVs.len (h : SVs B w S M) : S.length = M.length := by have := congrArg List.length h.keys; simpa using this
theorem SVs.key_at (h : SVs B w S M) (i : Nat) (hi : i < S.length) (hi' : i < M.length) : S[i].1 = M[i].1 := by
  have := congrArg (fun l => l[i]?) h.keys
  simpa [hi, hi'] using this
theorem SVs.row_at (h : SVs B w S M) (i : Nat) (hi : i < S.length) (hi' : i < M.length) : SRow B w S[i].2 M[i].2 ∧ M[i].2 ≠ [] := by
  have h1 := NU.look_of_mem h.ss (List.getElem_mem hi)
  have h2 := NU.look_of_mem h.sm (List.getElem_mem hi')
  rw [← h.key_at i hi hi'] at h2
  exact h.rows _ _ _ h1 h2
theorem Pairs.kept (h : Pairs B w v S M) {row : Option Nat} (hg : w.grownBy w' row) (hv : v.ownBlock = none ∨ v.ownBlock ≠ row) (hrow : ∀ k u, NU.look k S = some u → u.ownBlock ≠ row) : Pairs B w' v S M :=
  ⟨h.own.kept hg hv, h.svs.kept hg hrow, h.off⟩
theorem Pairs.fr (h : Pairs B w v S M) (hf : Fr w w') : Pairs B w' v S M :=
  h.kept (grownBy_of_fr hf) (by cases v.ownBlock <;> simp) (fun k u hu => by obtain ⟨g, hg, _⟩ := h.svs.blk hu; rw [hg]; simp)
theorem Pairs.form (h : Pairs B w v S M) : (v = .slice none 0 0 ∧ S = []) ∨ ∃ g cap, v = psl g S.length cap ∧ B ≤ g ∧ g < w.heap.size := by
  rcases h.own.2 with ⟨hv, hn⟩ | ⟨g, cap, cur, hv, hb, hg, _⟩
  · exact .inl ⟨hv, List.eq_nil_of_length_eq_zero hn⟩
  · exact .inr ⟨g, cap, hv, hb, (Array.getElem?_eq_some_iff.1 hg).1⟩
end
/-- An empty pair is appended (the slice of the one pair has just been made). -/
theorem wpList_ppush {ops : Array Oper} {rest : List Oper} {o : Oper} {a : Act} {Q : Exit → Act → World → Prop} (hgd : o.guard = none) (s x : Operand)
    (ho : o.op = .call { callee := .builtin .append, args := #[s, x], argTypes := #[24, 24] })
    (B : Nat) (v : Value) (n : Nat) (xs : List Value) (e1 e2 : Value) (h1 : e1.oneCell' = true) (h2 : e2.oneCell' = true) (w : World) (hB : B ≤ w.heap.size) (hl : n ≤ 1099511627776) (hs : a.eval s = v) (h : Hid (w.ownsRow B 40 2 v n xs))
    (hx : a.eval x = .slice (some ⟨w.heap.size, 0, none⟩) 1 1)
    (hk : ∀ g cap w', w'.ownsRow B 40 2 (psl g (n + 1) cap) (n + 1) (xs ++ [e1, e2]) → w.grownBy w' v.ownBlock → (v.ownBlock = some g ∨ w.heap.size ≤ g) → B ≤ g → wpList Tryd.prog ops Q rest (a.put o.dst (psl g (n + 1) cap)) w') :
    wpList Tryd.prog ops Q (o :: rest) a (w.alloc (.cells #[e1, e2] 40)) := by
  obtain ⟨i0, hi, hz0, hz1, hz2⟩ := info_parts infoPair
  refine wpList_append_own_at _ hgd s x 24 ho B 40 i0 (.agg #[.string ⟨#[]⟩, .slice none 0 0]) 2 40 Tryd.underlying24 hi hz0 hz1 hz2 rfl (by decide) v n xs hs (World.ownsRow.alloc h.out _) ⟨w.heap.size, 0, none⟩ 1 1 [e1, e2] hx rfl ?_ ?_ ?_ ?_ ?_ ?_
  · intro j u hu
    match j, hu with
    | 0, hu => simp at hu; subst hu; simp [Addr.add]
    | 1, hu => simp at hu; subst hu; simp [Addr.add]
  · intro u hu; simp at hu; rcases hu with rfl | rfl; exact h1; exact h2
  · unfold maxLen; omega
  · omega
  · simp; omega
  · intro v' w' hown' hgrow hnil hat
    obtain ⟨g, cap, hv, hb⟩ : ∃ g cap, v' = psl g (n + 1) cap ∧ B ≤ g := by
      rcases hown'.2 with ⟨hv, h0⟩ | ⟨g, cap, cur, hv, hb, _⟩
      · omega
      · exact ⟨g, cap, hv, hb⟩
    subst hv
    refine hk g cap w' hown' ((World.grownBy_alloc _ _ _).trans hgrow) ?_ hb
    rcases hat with h1 | h1
    · left; rw [← h1]; rfl
    · right
      have : g = (w.alloc (.cells #[e1, e2] 40)).heap.size := by simpa [Value.ownBlock] using h1
      rw [this]; simp
/-- A row of strings is copied into a new one. -/
theorem wpList_sclone {ops : Array Oper} {rest : List Oper} {o : Oper} {a : Act} {Q : Exit → Act → World → Prop} (hgd : o.guard = none) (s x : Operand)
    (ho : o.op = .call { callee := .builtin .append, args := #[s, x], argTypes := #[38, 38] })
    (B B' : Nat) (g cap : Nat) (l : List (List UInt8)) (w : World) (hB : B ≤ w.heap.size) (hl : l.length ≤ 4398046511104) (hs : a.eval s = .slice none 0 0) (h : Hid (SRow B' w (.slice (some ⟨g, 0, none⟩) l.length cap) l)) (h0 : l ≠ [])
    (hx : a.eval x = .slice (some ⟨g, 0, none⟩) l.length cap)
    (hk : ∀ g' cap' w', SRow B w' (.slice (some ⟨g', 0, none⟩) l.length cap') l → w.grownBy w' none → w.heap.size ≤ g' → wpList Tryd.prog ops Q rest (a.put o.dst (.slice (some ⟨g', 0, none⟩) l.length cap')) w') :
    wpList Tryd.prog ops Q (o :: rest) a w := by
  obtain ⟨i0, hi, hz0, hz1, hz2⟩ := info_parts infoStr
  refine wpList_append_own_at _ hgd s x 38 ho B 9 i0 (.string ⟨#[]⟩) 1 16 Tryd.underlying38 hi hz0 hz1 hz2 rfl (by decide) _ 0 [] hs (World.ownsRow_nil _ _ _ _) ⟨g, 0, none⟩ l.length cap (sCells l) hx (by rw [sCells_len]; omega) ?_ ?_ ?_ ?_ hB ?_
  · exact h.out.cells rfl
  · intro u hu; unfold sCells at hu; obtain ⟨s, _, rfl⟩ := List.mem_map.1 hu; rfl
  · unfold maxLen; omega
  · omega
  · intro v' w' hown' hgrow hnil hat
    rw [Nat.zero_add, List.nil_append] at hown'
    have hrow : SRow B w' v' l := hown'
    obtain ⟨g', cap', hv, hb, _⟩ := hrow.form h0
    subst hv
    refine hk g' cap' w' hrow hgrow ?_
    rcases hat with h1 | h1
    · cases h1
    · have : g' = w.heap.size := by simpa [Value.ownBlock] using h1
      omega

/-! ### ranging over such a map -/
theorem has_look (S : SL) (k : List UInt8) : Maps.has (dmap S) (.string k) = (NU.look k S).isSome := by
  unfold dmap Maps.has dents
  simp only
  induction S with
  | nil => rfl
  | cons q r ih =>
    rw [List.map_cons, List.any_cons, NU.look]
    simp only [same_str]
    by_cases e : q.1 = k
    · rw [if_pos e]; simp [e]
    · rw [if_neg e, show (q.1 == k) = false by simpa using e, Bool.false_or]; exact ih
theorem gmap_size {B : Nat} {w : World} {b n : Nat} {S : SL} {M : NU.QM} (h : Gmap B w b n S M) : Maps.size (dmap S) ≤ n := by
  obtain ⟨es, clock, _, _, hs, hD⟩ := h.2.1
  have : Maps.size (dmap S) = es.size := by
    rw [hD]; simp [Maps.size, length_sorted]
  omega
theorem wpList_next_g {ops : Array Oper} {rest : List Oper} {o : Oper} {a : Act} {w : World} {Q : Exit → Act → World → Prop} (hgd : o.guard = none) (it : Operand) (hop : o.op = Op.next it false)
    (B b r n : Nat) (S : SL) (M : NU.QM) (left : Lit → Bool) (cnt : Nat) (hit : a.eval it = .pointer (some ⟨r, 0, none⟩)) (h : Hid (w.ranges Tryd.prog 9 Rsl b r n (dmap S) left cnt)) (hG : Hid (SVs B w S M))
    (hDone : (∀ kl, left kl = false) → wpList Tryd.prog ops Q rest (a.put o.dst (.tuple #[.bool false])) w)
    (hMore : ∀ (key : ByteArray) (g cap : Nat) (l : List (List UInt8)) (w' : World) (cnt' : Nat), key.size ≤ maxLen → NU.look (L key) M = some l → NU.look (L key) S = some (.slice (some ⟨g, 0, none⟩) l.length cap) → left (.string (L key)) = true → SRow B w (.slice (some ⟨g, 0, none⟩) l.length cap) l → l ≠ [] →
      w'.ranges Tryd.prog 9 Rsl b r n (dmap S) (fun z => left z && !z.sameKey (.string (L key))) cnt' → cnt' < cnt → w.grownBy w' (some r) → w'.heap.size = w.heap.size →
      (Instr.entry (.pointer (some ⟨r, 0, none⟩))).run Tryd.prog w' = .ok (.tuple #[.string key, .slice (some ⟨g, 0, none⟩) l.length cap]) w' →
      wpList Tryd.prog ops Q rest (a.put o.dst (.tuple #[.bool true, .string key, .slice (some ⟨g, 0, none⟩) l.length cap])) w') :
    wpList Tryd.prog ops Q (o :: rest) a w := by
  refine wpList_plain hgd fun K' hK' => ?_
  unfold Oper.wp
  rcases h.out.next lawK o.type with ⟨h0, hl, hrun⟩ | ⟨key, v, kl, y, w', cnt', hkey, hlk, hv, hat, hrun, hrg, hlt, hgr, hsz, hen⟩
  · simp [execOp, hop, hit, hrun, Result.andThen]
    exact hK' _ _ (hDone hl)
  · obtain ⟨x, rfl, rfl, hxl⟩ := Maps.keyOf_str Tryd.underlying9 hkey
    obtain ⟨z, hz⟩ : ∃ z, NU.look x S = some z := by
      cases ho : NU.look x S with
      | some z => exact ⟨z, rfl⟩
      | none =>
        exfalso
        have h1 := hat .nil
        have h2 := hat (.lit (.bool true))
        rw [dmap_at, ho] at h1 h2
        rw [← h1] at h2; cases h2
    obtain ⟨l, hl, hr, h0⟩ := hG.out.row hz
    obtain ⟨g, cap, hzf, _⟩ := hr.form h0
    have h1 := hat .nil
    rw [dmap_at, hz] at h1
    have hy2 := (Rsl_inv (d := y.1) (ps := y.2) (by rw [hv])).1
    have : v = z := by
      refine Rsl_inj (d := y.1) (ps := y.2) (ps' := []) (by rw [hv]) ?_
      rw [← h1, hzf]; rfl
    subst this
    subst hzf
    simp [execOp, hop, hit, hrun, Result.andThen]
    exact hK' _ _ (hMore (mk x) g cap l w' cnt' (by rw [mk_size]; exact hxl) (by rw [L_mk]; exact hl) (by rw [L_mk]; exact hz) (by rw [L_mk]; exact hlk) hr h0 (by rw [L_mk]; exact hrg) hlt hgr hsz hen)
end Go.Proofs.YtlholchmgheemaaDoor
