/-
  Plain Lean: resolving a path; the package's way and the reference's way answer alike.
-/
import Derived.Test.YtibcegbacnjmfaaDoorP1
namespace NU
set_option linter.unusedVariables false
set_option linter.unusedSimpArgs false
/-- A text in pieces, parted at slashes. -/
def segs : Bytes → List Bytes
  | [] => [[]]
  | c :: r => if c = 47 then [] :: segs r else (c :: (segs r).headD []) :: (segs r).tail
theorem segs_ne (s : Bytes) : segs s ≠ [] := by cases s with
  | nil => simp [segs]
  | cons c r => simp only [segs]; split <;> simp
def noSl (s : Bytes) : Prop := ∀ c ∈ s, c ≠ 47
theorem noSl_nil : noSl [] := fun c hc => by cases hc
theorem segs_app (a r : Bytes) (h : noSl a) : segs (a ++ 47 :: r) = a :: segs r := by
  induction a with
  | nil => simp [segs]
  | cons c a ih =>
    have hc : c ≠ 47 := h c (by simp)
    rw [List.cons_append, segs, if_neg hc, ih (fun d hd => h d (by simp [hd]))]; rfl
theorem segs_one (a : Bytes) (h : noSl a) : segs a = [a] := by
  induction a with
  | nil => simp [segs]
  | cons c a ih =>
    have hc : c ≠ 47 := h c (by simp)
    rw [segs, if_neg hc, ih (fun d hd => h d (by simp [hd]))]; rfl
theorem segs_noSl (s : Bytes) : ∀ e ∈ segs s, noSl e := by
  induction s with
  | nil => intro e he; simp [segs] at he; subst he; intro c hc; cases hc
  | cons c r ih =>
    intro e he
    rw [segs] at he
    split at he
    · rcases List.mem_cons.1 he with rfl | he
      · intro c hc; cases hc
      · exact ih e he
    · rename_i hc
      rcases List.mem_cons.1 he with rfl | he
      · intro d hd
        rcases List.mem_cons.1 hd with rfl | hd
        · exact hc
        · refine ih ((segs r).headD []) ?_ d hd
          cases hs : segs r with
          | nil => exact absurd hs (segs_ne r)
          | cons a b => simp
      · exact ih e (List.mem_of_mem_tail he)
/-- What stands ahead of the first slash, and behind it. -/
theorem segs_part (s : Bytes) : noSl s ∧ segs s = [s] ∨ ∃ a r, noSl a ∧ s = a ++ 47 :: r ∧ segs s = a :: segs r := by
  induction s with
  | nil => left; exact ⟨noSl_nil, rfl⟩
  | cons c s ih =>
    by_cases hc : c = 47
    · right; exact ⟨[], s, noSl_nil, by rw [hc]; rfl, by rw [hc, segs, if_pos rfl]⟩
    · rcases ih with ⟨h, _⟩ | ⟨a, r, h, rfl, _⟩
      · left
        have : noSl (c :: s) := fun d hd => by
          rcases List.mem_cons.1 hd with rfl | hd
          · exact hc
          · exact h d hd
        exact ⟨this, segs_one _ this⟩
      · right
        have : noSl (c :: a) := fun d hd => by
          rcases List.mem_cons.1 hd with rfl | hd
          · exact hc
          · exact h d hd
        exact ⟨c :: a, r, this, rfl, segs_app (c :: a) r this⟩
theorem fsub_noSl (s : Bytes) (h : noSl s) : fsub [47] s = -1 := by
  induction s with
  | nil => rfl
  | cons c s ih =>
    have hc : (c == 47) = false := by simpa using h c (by simp)
    rw [fsub_one_cons, ih (fun d hd => h d (by simp [hd])), hc]; rfl
theorem fsub_app (a r : Bytes) (h : noSl a) : fsub [47] (a ++ 47 :: r) = a.length := by
  induction a with
  | nil => rw [List.nil_append, fsub_one_cons]; rfl
  | cons c a ih =>
    have hc : (c == 47) = false := by simpa using h c (by simp)
    rw [List.cons_append, fsub_one_cons, ih (fun d hd => h d (by simp [hd])), hc]
    simp; omega
theorem cut_noSl (s : Bytes) (h : noSl s) : cutB [47] s = s ∧ cutF [47] s = false := by
  unfold cutB cutF; rw [fsub_noSl s h]; simp
theorem cut_app (a r : Bytes) (h : noSl a) : cutB [47] (a ++ 47 :: r) = a ∧ cutA [47] (a ++ 47 :: r) = r ∧ cutF [47] (a ++ 47 :: r) = true := by
  unfold cutB cutA cutF; rw [fsub_app a r h]
  refine ⟨?_, ?_, ?_⟩
  · rw [if_neg (by omega)]; simp
  · rw [if_neg (by omega)]; simp
  · simp

/-- One piece of the package's way: what has been written, and whether a slash is left out. -/
def rpPop (d : Bytes) : Bytes := if 0 ≤ lastIdx 47 (d.drop 1) then d.take ((lastIdx 47 (d.drop 1)).toNat + 1) else d.take 1
def rpStep (d : Bytes) (f : Bool) (e : Bytes) : Bytes × Bool :=
  if e = [46] then (d, false) else if e = [46, 46] then (rpPop d, decide ((rpPop d).length = 1)) else ((if f then d else d ++ [47]) ++ e, false)
def dots (e : Bytes) : Bool := e == [46] || e == [46, 46]
def rpRun : List Bytes → Bytes → Bool → Bytes
  | [], d, _ => d
  | [e], d, f => if dots e then (rpStep d f e).1 ++ [47] else (rpStep d f e).1
  | e :: r, d, f => rpRun r (rpStep d f e).1 (rpStep d f e).2
def rpFin (d : Bytes) : Bytes := if (d.drop 1).head? = some 47 then d.drop 1 else d
theorem rpRun_one (e d : Bytes) (f : Bool) : rpRun [e] d f = if dots e then (rpStep d f e).1 ++ [47] else (rpStep d f e).1 := rfl
theorem rpRun_cons (e d : Bytes) (r : List Bytes) (f : Bool) (h : r ≠ []) : rpRun (e :: r) d f = rpRun r (rpStep d f e).1 (rpStep d f e).2 := by
  cases r with
  | nil => exact absurd rfl h
  | cons a b => rfl
/-- The package's way. -/
def rpFull (base ref : Bytes) : Bytes :=
  match ref with
  | [] => base
  | c :: r => if c = 47 then c :: r else base.take ((lastIdx 47 base + 1).toNat) ++ (c :: r)
def resolvePath (base ref : Bytes) : Bytes := if rpFull base ref = [] then [] else rpFin (rpRun (segs (rpFull base ref)) [47] true)

/-- The reference's way: one step. -/
def rdDrop (o : Bytes) : Bytes := o.take (lastIdx 47 o).toNat
def rdStep (i o : Bytes) : Bytes × Bytes :=
  if begins i [46, 46, 47] then (i.drop 3, o)
  else if begins i [46, 47] then (i.drop 2, o)
  else if begins i [47, 46, 47] then (i.drop 2, o)
  else if i = [47, 46] then ([47], o)
  else if begins i [47, 46, 46, 47] then (i.drop 3, rdDrop o)
  else if i = [47, 46, 46] then ([47], rdDrop o)
  else if i = [46] ∨ i = [46, 46] then ([], o)
  else (i.drop (1 + index (i.drop 1) [47]), o ++ i.take (1 + index (i.drop 1) [47]))
def rd : Nat → Bytes → Bytes → Bytes
  | 0, _, o => o
  | n + 1, i, o => if i = [] then o else rd n (rdStep i o).1 (rdStep i o).2
def removeDots (s : Bytes) : Bytes := rd (s.length + 1) s []
def rdSeg : List Bytes → Bytes → Bytes
  | [], o => o
  | [e], o => if e = [46] then o ++ [47] else if e = [46, 46] then rdDrop o ++ [47] else o ++ 47 :: e
  | e :: r, o => rdSeg r (if e = [46] then o else if e = [46, 46] then rdDrop o else o ++ 47 :: e)
theorem rdSeg_cons (e o : Bytes) (r : List Bytes) (h : r ≠ []) : rdSeg (e :: r) o = rdSeg r (if e = [46] then o else if e = [46, 46] then rdDrop o else o ++ 47 :: e) := by
  cases r with
  | nil => exact absurd rfl h
  | cons a b => rfl
theorem index_noSl (s : Bytes) (h : noSl s) : index s [47] = s.length := by
  induction s with
  | nil => rfl
  | cons c s ih =>
    have hc : c ≠ 47 := h c (by simp)
    rw [index_cons, ih (fun d hd => h d (by simp [hd]))]
    simp [mem, hc]
theorem index_app47 (a r : Bytes) (h : noSl a) : index (a ++ 47 :: r) [47] = a.length := by
  induction a with
  | nil => rw [List.nil_append, index_cons]; rfl
  | cons c s ih =>
    have hc : c ≠ 47 := h c (by simp)
    rw [List.cons_append, index_cons, ih (fun d hd => h d (by simp [hd]))]
    simp [mem, hc]
theorem rd_one (n : Nat) (o : Bytes) : rd (n + 2) [47] o = o ++ [47] := by
  rw [rd, if_neg (by simp)]
  have : rdStep [47] o = ([], o ++ [47]) := by simp [rdStep, begins, index]
  rw [this, rd, if_pos rfl]
/-- A first piece that is no dots, in the reference's step. -/
theorem rdStep_other (x a o : Bytes) (hx : x = a ∨ ∃ r, x = a ++ 47 :: r) (ha : noSl a) (h1 : a ≠ [46]) (h2 : a ≠ [46, 46]) :
    rdStep (47 :: x) o = (x.drop a.length, o ++ 47 :: a) := by
  have hi : index x [47] = a.length := by
    rcases hx with rfl | ⟨r, rfl⟩
    · exact index_noSl _ ha
    · exact index_app47 _ _ ha
  have ht : x.take a.length = a := by
    rcases hx with rfl | ⟨r, rfl⟩
    · simp
    · simp
  have e1 : begins (47 :: x) [47, 46, 47] = false := by
    cases hb : begins (47 :: x) [47, 46, 47] with
    | false => rfl
    | true =>
      exfalso
      simp only [begins, List.isPrefixOf_cons_cons, Bool.and_eq_true] at hb
      obtain ⟨z, hz⟩ := List.isPrefixOf_iff_prefix.1 hb.2
      rcases hx with rfl | ⟨r, rfl⟩
      · exact ha 47 (by rw [← hz]; simp) rfl
      · match a, ha, h1, hz with
        | [], _, _, hz => simp at hz
        | [c], ha, h1, hz => simp at hz; exact h1 (by rw [← hz.1])
        | c :: d :: t, ha, h1, hz => simp at hz; exact ha d (by simp) hz.2.1.symm
  have e2 : begins (47 :: x) [47, 46, 46, 47] = false := by
    cases hb : begins (47 :: x) [47, 46, 46, 47] with
    | false => rfl
    | true =>
      exfalso
      simp only [begins, List.isPrefixOf_cons_cons, Bool.and_eq_true] at hb
      obtain ⟨z, hz⟩ := List.isPrefixOf_iff_prefix.1 hb.2
      rcases hx with rfl | ⟨r, rfl⟩
      · exact ha 47 (by rw [← hz]; simp) rfl
      · match a, ha, h2, hz with
        | [], _, _, hz => simp at hz
        | [c], ha, h2, hz => simp at hz
        | [c, d], ha, h2, hz => simp at hz; exact h2 (by rw [← hz.1, ← hz.2.1])
        | c :: d :: e :: t, ha, h2, hz => simp at hz; exact ha e (by simp) hz.2.2.1.symm
  have e3 : ¬ (47 :: x) = [47, 46] := by
    intro h
    have hx1 : x = [46] := by simpa using h
    rcases hx with rfl | ⟨r, rfl⟩
    · exact h1 hx1
    · match a, hx1 with
      | [], hx1 => simp at hx1
      | c :: t, hx1 => simp at hx1
  have e4 : ¬ (47 :: x) = [47, 46, 46] := by
    intro h
    have hx1 : x = [46, 46] := by simpa using h
    rcases hx with rfl | ⟨r, rfl⟩
    · exact h2 hx1
    · match a, hx1 with
      | [], hx1 => simp at hx1
      | [c], hx1 => simp at hx1
      | c :: d :: t, hx1 => simp at hx1
  rw [rdStep, if_neg (by simp [begins]), if_neg (by simp [begins]), if_neg (by rw [e1]; simp), if_neg e3, if_neg (by rw [e2]; simp), if_neg e4, if_neg (by simp)]
  simp only [List.drop_one, List.tail_cons]
  rw [hi, show 1 + a.length = a.length + 1 by omega, List.drop_succ_cons, List.take_succ_cons, ht]
theorem rd_segs (n : Nat) (x o : Bytes) (hn : x.length ≤ n) : rd (n + 2) (47 :: x) o = rdSeg (segs x) o := by
  induction n using Nat.strongRecOn generalizing x o with
  | ind n ih =>
    rcases segs_part x with ⟨h, hs⟩ | ⟨a, r, h, rfl, hs⟩
    · rw [hs, rdSeg]
      by_cases h1 : x = [46]
      · subst h1
        simp at hn
        obtain ⟨m, rfl⟩ : ∃ m, n = m + 1 := ⟨n - 1, by omega⟩
        rw [if_pos rfl, rd, if_neg (by simp)]
        have : rdStep [47, 46] o = ([47], o) := by simp [rdStep, begins]
        rw [this, rd_one]
      · rw [if_neg h1]
        by_cases h2 : x = [46, 46]
        · subst h2
          simp at hn
          obtain ⟨m, rfl⟩ : ∃ m, n = m + 1 := ⟨n - 1, by omega⟩
          rw [if_pos rfl, rd, if_neg (by simp)]
          have : rdStep [47, 46, 46] o = ([47], rdDrop o) := by simp [rdStep, begins]
          rw [this, rd_one]
        · rw [if_neg h2, rd, if_neg (by simp), rdStep_other x x o (.inl rfl) h h1 h2]
          simp only [List.drop_length]
          rw [rd, if_pos rfl]
    · rw [hs, rdSeg_cons _ _ _ (segs_ne r)]
      simp only [List.length_append, List.length_cons] at hn
      by_cases h1 : a = [46]
      · subst h1
        simp at hn
        obtain ⟨m, rfl⟩ : ∃ m, n = m + 1 := ⟨n - 1, by omega⟩
        rw [if_pos rfl, rd, if_neg (by simp)]
        have : rdStep (47 :: ([46] ++ 47 :: r)) o = (47 :: r, o) := by simp [rdStep, begins]
        rw [this]
        exact ih m (by omega) r o (by omega)
      · rw [if_neg h1]
        by_cases h2 : a = [46, 46]
        · subst h2
          simp at hn
          obtain ⟨m, rfl⟩ : ∃ m, n = m + 1 := ⟨n - 1, by omega⟩
          rw [if_pos rfl, rd, if_neg (by simp)]
          have : rdStep (47 :: ([46, 46] ++ 47 :: r)) o = (47 :: r, rdDrop o) := by simp [rdStep, begins]
          rw [this]
          exact ih m (by omega) r _ (by omega)
        · obtain ⟨m, rfl⟩ : ∃ m, n = m + 1 := ⟨n - 1, by omega⟩
          rw [if_neg h2, rd, if_neg (by simp), rdStep_other _ a o (.inr ⟨r, rfl⟩) h h1 h2]
          simp only [List.drop_left]
          exact ih m (by omega) r _ (by omega)

def join (l : List Bytes) : Bytes := l.flatMap (47 :: ·)
theorem join_app (a b : List Bytes) : join (a ++ b) = join a ++ join b := by simp [join]
theorem join_one (e : Bytes) : join [e] = 47 :: e := by simp [join]
theorem lastIdx_noSl (a e : Bytes) (h : noSl e) : lastIdx 47 (a ++ 47 :: e) = a.length := by
  induction a with
  | nil =>
    rw [List.nil_append, lastIdx]
    have : lastIdx 47 e = -1 := by
      induction e with
      | nil => rfl
      | cons c r ih =>
        rw [lastIdx, ih (fun d hd => h d (by simp [hd]))]
        have : (c == 47) = false := by simpa using h c (by simp)
        rw [this]; rfl
    rw [this]; rfl
  | cons c a ih => rw [List.cons_append, lastIdx, ih, if_pos (by omega)]; simp
theorem lastIdx_none (e : Bytes) (h : noSl e) : lastIdx 47 e = -1 := by
  induction e with
  | nil => rfl
  | cons c r ih =>
    rw [lastIdx, ih (fun d hd => h d (by simp [hd]))]
    have : (c == 47) = false := by simpa using h c (by simp)
    rw [this]; rfl
theorem rdDrop_app (l : List Bytes) (e : Bytes) (h : noSl e) : rdDrop (join (l ++ [e])) = join l := by
  rw [rdDrop, join_app, join_one, lastIdx_noSl _ _ h]; simp
theorem rdDrop_nil : rdDrop [] = [] := rfl
theorem snoc_cases (T : List Bytes) : T = [] ∨ ∃ T' e, T = T' ++ [e] := by
  rcases List.eq_nil_or_concat T with h | ⟨a, b, h⟩
  · exact .inl h
  · exact .inr ⟨a, b, by simpa using h⟩
/-- The two ways side by side: empty pieces that the package has forgotten, and the pieces that both have. -/
def Sim (d : Bytes) (f : Bool) (o : Bytes) : Prop :=
  ∃ (Z : Nat) (T : List Bytes), (∀ e ∈ T, noSl e) ∧ o = join (List.replicate Z [] ++ T) ∧
    ((f = false ∧ d = 47 :: join T) ∨ (f = false ∧ (∃ t T', T = t :: T' ∧ t ≠ []) ∧ d = join T) ∨ (f = true ∧ T = [] ∧ d = [47]))
theorem rep_snoc (Z : Nat) : List.replicate (Z + 1) ([] : Bytes) = List.replicate Z [] ++ [[]] := by
  rw [List.replicate_succ']
theorem drop_rep (Z : Nat) : rdDrop (join (List.replicate Z [])) = join (List.replicate (Z - 1) []) := by
  cases Z with
  | zero => rfl
  | succ Z => rw [rep_snoc, rdDrop_app _ _ noSl_nil]; rfl
theorem sim_pop (d : Bytes) (f : Bool) (o : Bytes) (h : Sim d f o) : Sim (rpPop d) (decide ((rpPop d).length = 1)) (rdDrop o) := by
  obtain ⟨Z, T, hT, rfl, h⟩ := h
  have h0 : rpPop [47] = [47] := rfl
  rcases h with ⟨rfl, rfl⟩ | ⟨rfl, ⟨t, T', rfl, ht⟩, rfl⟩ | ⟨rfl, rfl, rfl⟩
  · rcases snoc_cases T with rfl | ⟨T', e, rfl⟩
    · refine ⟨Z - 1, [], by simp, by rw [List.append_nil, drop_rep]; simp, .inr (.inr ⟨?_, rfl, ?_⟩)⟩
      · rw [show join [] = [] from rfl, h0]; rfl
      · rw [show join [] = [] from rfl, h0]
    · have he : noSl e := hT e (by simp)
      have hp : rpPop (47 :: join (T' ++ [e])) = 47 :: join T' := by
        rw [rpPop, List.drop_one, List.tail_cons, join_app, join_one, lastIdx_noSl _ _ he, if_pos (by omega)]; simp
      rw [hp]
      refine ⟨Z, T', fun x hx => hT x (by simp [hx]), by rw [← List.append_assoc, rdDrop_app _ _ he], ?_⟩
      by_cases hn : T' = []
      · subst hn; exact .inr (.inr ⟨rfl, rfl, rfl⟩)
      · refine .inl ⟨?_, rfl⟩
        cases T' with
        | nil => exact absurd rfl hn
        | cons a b => simp [join]
  · have hn : noSl t := hT t (by simp)
    rcases snoc_cases T' with rfl | ⟨T2, e, rfl⟩
    · have hp : rpPop (join [t]) = [47] := by
        rw [rpPop, join_one, List.drop_one, List.tail_cons, lastIdx_none _ hn, if_neg (by omega)]; rfl
      rw [hp]
      exact ⟨Z, [], by simp, by rw [rdDrop_app _ _ hn]; simp, .inr (.inr ⟨rfl, rfl, rfl⟩)⟩
    · have he : noSl e := hT e (by simp)
      have hp : rpPop (join (t :: (T2 ++ [e]))) = join (t :: T2) := by
        have e1 : join (t :: (T2 ++ [e])) = 47 :: (t ++ join T2 ++ 47 :: e) := by simp [join]
        have e2 : join (t :: T2) = 47 :: (t ++ join T2) := by simp [join]
        rw [e1, e2, rpPop, List.drop_one, List.tail_cons, lastIdx_noSl _ _ he, if_pos (by omega), Int.toNat_natCast, List.take_succ_cons, List.take_left]
      rw [hp]
      refine ⟨Z, t :: T2, fun x hx => hT x (by simp at hx ⊢; rcases hx with rfl | hx; exact .inl rfl; exact .inr (.inl hx)), ?_, .inr (.inl ⟨?_, ⟨t, T2, rfl, ht⟩, rfl⟩)⟩
      · rw [show List.replicate Z [] ++ t :: (T2 ++ [e]) = (List.replicate Z [] ++ t :: T2) ++ [e] by simp, rdDrop_app _ _ he]
      · cases t with
        | nil => exact absurd rfl ht
        | cons a b => simp [join]
  · rw [h0]
    exact ⟨Z - 1, [], by simp, by rw [List.append_nil, drop_rep]; simp, .inr (.inr ⟨rfl, rfl, rfl⟩)⟩
theorem sim_push (d : Bytes) (f : Bool) (o e : Bytes) (he : noSl e) (h : Sim d f o) : Sim ((if f then d else d ++ [47]) ++ e) false (o ++ 47 :: e) := by
  obtain ⟨Z, T, hT, rfl, h⟩ := h
  have hT' : ∀ x ∈ T ++ [e], noSl x := by
    intro x hx
    rcases List.mem_append.1 hx with hx | hx
    · exact hT x hx
    · simp at hx; subst hx; exact he
  have ho : join (List.replicate Z [] ++ T) ++ 47 :: e = join (List.replicate Z [] ++ (T ++ [e])) := by simp [join]
  rcases h with ⟨rfl, rfl⟩ | ⟨rfl, ⟨t, T', rfl, ht⟩, rfl⟩ | ⟨rfl, rfl, rfl⟩
  · exact ⟨Z, T ++ [e], hT', ho, .inl ⟨rfl, by simp [join]⟩⟩
  · exact ⟨Z, t :: T' ++ [e], hT', ho, .inr (.inl ⟨rfl, ⟨t, T' ++ [e], rfl, ht⟩, by simp [join]⟩)⟩
  · by_cases hn : e = []
    · subst hn
      exact ⟨Z + 1, [], by simp, by rw [rep_snoc]; simp [join], .inl ⟨rfl, rfl⟩⟩
    · exact ⟨Z, [e], by simpa using hT', by simpa using ho, .inr (.inl ⟨rfl, ⟨e, [], rfl, hn⟩, by simp [join]⟩)⟩
def two (s : Bytes) : Prop := (s.drop 1).head? = some 47
theorem join_head (T : List Bytes) (h : T ≠ []) : (join T).head? = some 47 := by
  cases T with
  | nil => exact absurd rfl h
  | cons a b => simp [join]
theorem two_rep (Z : Nat) (T : List Bytes) (h : T ≠ []) : two (join (List.replicate (Z + 1) [] ++ T)) := by
  unfold two
  rw [List.replicate_succ, List.cons_append]
  have : join ([] :: (List.replicate Z [] ++ T)) = 47 :: join (List.replicate Z [] ++ T) := by simp [join]
  rw [this, List.drop_one, List.tail_cons]
  exact join_head _ (by simp [h])
theorem fin_A (T : List Bytes) (h : T ≠ []) : rpFin (47 :: join T) = join T := by
  rw [rpFin, List.drop_one, List.tail_cons, if_pos (join_head T h)]
theorem fin_B (t : Bytes) (T : List Bytes) (ht : t ≠ []) (hn : noSl t) : rpFin (join (t :: T)) = join (t :: T) := by
  rw [rpFin, if_neg]
  cases t with
  | nil => exact absurd rfl ht
  | cons a b =>
    have := hn a (by simp)
    simp [join, this]
theorem end_plain (d : Bytes) (f : Bool) (o : Bytes) (h : Sim d f o) (hf : f = false) (ho : o ≠ []) (h2 : ¬ two o) : rpFin d = o := by
  obtain ⟨Z, T, hT, rfl, h⟩ := h
  rcases h with ⟨_, rfl⟩ | ⟨_, ⟨t, T', rfl, ht⟩, rfl⟩ | ⟨rfl, _, _⟩
  · cases Z with
    | zero =>
      by_cases hn : T = []
      · subst hn; exact absurd rfl ho
      · simpa using fin_A T hn
    | succ Z =>
      by_cases hn : T = []
      · subst hn
        cases Z with
        | zero => rfl
        | succ Z => exact absurd (by rw [rep_snoc, List.append_nil]; exact two_rep Z [[]] (by simp)) h2
      · exact absurd (two_rep Z T hn) h2
  · cases Z with
    | zero => simpa using fin_B t T' ht (hT t (by simp))
    | succ Z => exact absurd (two_rep Z _ (by simp)) h2
  · cases hf
theorem end_dots (d : Bytes) (f : Bool) (o : Bytes) (h : Sim d f o) (h2 : ¬ two (o ++ [47])) : rpFin (d ++ [47]) = o ++ [47] := by
  obtain ⟨Z, T, hT, rfl, h⟩ := h
  have ho : join (List.replicate Z [] ++ T) ++ [47] = join (List.replicate Z [] ++ (T ++ [[]])) := by simp [join]
  rw [ho] at h2 ⊢
  have hZ : Z = 0 := by
    cases Z with
    | zero => rfl
    | succ Z => exact absurd (two_rep Z _ (by simp)) h2
  subst hZ
  simp only [List.replicate_zero, List.nil_append]
  rcases h with ⟨_, rfl⟩ | ⟨_, ⟨t, T', rfl, ht⟩, rfl⟩ | ⟨_, rfl, rfl⟩
  · have e : 47 :: join T ++ [47] = 47 :: join (T ++ [[]]) := by simp [join]
    rw [e, fin_A _ (by simp)]
  · have e : join (t :: T') ++ [47] = join (t :: (T' ++ [[]])) := by simp [join]
    rw [e]; simpa using fin_B t (T' ++ [[]]) ht (hT t (by simp))
  · rfl
theorem rp_rd (l : List Bytes) (hl : l ≠ []) (hs : ∀ e ∈ l, noSl e) (d : Bytes) (f : Bool) (o : Bytes) (h : Sim d f o) (h2 : ¬ two (rdSeg l o)) : rpFin (rpRun l d f) = rdSeg l o := by
  induction l generalizing d f o with
  | nil => exact absurd rfl hl
  | cons e r ih =>
    by_cases hr : r = []
    · subst hr
      rw [rpRun_one]
      by_cases h1 : e = [46]
      · subst h1
        have e1 : rdSeg [[46]] o = o ++ [47] := rfl
        rw [e1] at h2 ⊢
        exact end_dots d f o h h2
      · by_cases h3 : e = [46, 46]
        · subst h3
          have e1 : rdSeg [[46, 46]] o = rdDrop o ++ [47] := rfl
          rw [e1] at h2 ⊢
          exact end_dots _ _ _ (sim_pop d f o h) h2
        · have e1 : rdSeg [e] o = o ++ 47 :: e := by rw [rdSeg, if_neg h1, if_neg h3]
          have e2 : dots e = false := by simp [dots, h1, h3]
          rw [e1] at h2 ⊢
          rw [e2, rpStep, if_neg h1, if_neg h3]
          exact end_plain _ false _ (sim_push d f o e (hs e (by simp)) h) rfl (by simp) h2
    · rw [rdSeg_cons _ _ _ hr] at h2 ⊢
      rw [rpRun_cons _ _ _ _ hr]
      refine ih hr (fun x hx => hs x (by simp [hx])) _ _ _ ?_ h2
      by_cases h1 : e = [46]
      · subst h1
        obtain ⟨Z, T, hT, rfl, h⟩ := h
        refine ⟨Z, T, hT, rfl, ?_⟩
        rcases h with ⟨rfl, rfl⟩ | ⟨rfl, h, rfl⟩ | ⟨rfl, rfl, rfl⟩
        · exact .inl ⟨rfl, rfl⟩
        · exact .inr (.inl ⟨rfl, h, rfl⟩)
        · exact .inl ⟨rfl, rfl⟩
      · rw [if_neg h1, rpStep, if_neg h1]
        by_cases h3 : e = [46, 46]
        · rw [if_pos h3, if_pos h3]; exact sim_pop d f o h
        · rw [if_neg h3, if_neg h3]; exact sim_push d f o e (hs e (by simp)) h
/-- A path that begins with a slash: both ways answer alike, unless the reference's begins with two. -/
theorem resolve_full (x : Bytes) (h2 : ¬ two (removeDots (47 :: x))) : rpFin (rpRun (segs (47 :: x)) [47] true) = removeDots (47 :: x) := by
  have e1 : removeDots (47 :: x) = rdSeg (segs x) [] := by
    rw [removeDots, List.length_cons]; exact rd_segs x.length x [] (by omega)
  have e2 : segs (47 :: x) = [] :: segs x := by rw [segs, if_pos rfl]
  have e3 : rpRun ([] :: segs x) [47] true = rpRun (segs x) [47] false := by rw [rpRun_cons _ _ _ _ (segs_ne x)]; rfl
  rw [e1] at h2 ⊢
  rw [e2, e3]
  exact rp_rd (segs x) (segs_ne x) (segs_noSl x) _ _ _ ⟨0, [], by simp, rfl, .inl ⟨rfl, rfl⟩⟩ h2
theorem rpFull_head (b r : Bytes) (hr : r ≠ []) : ∃ x, rpFull (47 :: b) r = 47 :: x := by
  match r, hr with
  | c :: r, _ =>
    rw [rpFull]
    by_cases hc : c = 47
    · rw [if_pos hc, hc]; exact ⟨_, rfl⟩
    · rw [if_neg hc]
      have h1 := lastIdx_lo 47 b
      have : ∃ n : Nat, (lastIdx 47 (47 :: b) + 1).toNat = n + 1 := by
        rw [lastIdx]; split
        · exact ⟨(lastIdx 47 b + 1).toNat, by omega⟩
        · exact ⟨0, rfl⟩
      obtain ⟨n, hn⟩ := this
      rw [hn, List.take_succ_cons]
      exact ⟨_, rfl⟩
/-- The law: a path is resolved against one that begins with a slash as the reference says. -/
theorem resolve_law (b r : Bytes) (hr : r ≠ []) (h2 : ¬ two (removeDots (rpFull (47 :: b) r))) : resolvePath (47 :: b) r = removeDots (rpFull (47 :: b) r) := by
  obtain ⟨x, hx⟩ := rpFull_head b r hr
  rw [resolvePath, hx, if_neg (by simp)]
  rw [hx] at h2
  exact resolve_full x h2
/-- The reference's way. -/
def specRP (b r : Bytes) : Bytes := if begins r [47] then removeDots r else removeDots (b.take (lastIdx 47 b + 1).toNat ++ r)
theorem specRP_eq (b r : Bytes) (hr : r ≠ []) : specRP b r = removeDots (rpFull b r) := by
  match r, hr with
  | c :: r, _ =>
    rw [specRP, rpFull]
    by_cases hc : c = 47
    · subst hc; simp [begins]
    · have : begins (c :: r) [47] = false := by
        simpa [begins, List.isPrefixOf] using fun (e : (47 : UInt8) = c) => hc e.symm
      rw [this, if_neg hc]; rfl
end NU
