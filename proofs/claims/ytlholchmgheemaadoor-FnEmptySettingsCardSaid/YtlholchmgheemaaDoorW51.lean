import Derived.Test.YtlholchmgheemaaDoorW3
import Derived.Test.YtlholchmgheemaaDoorBlk
import Derived.Test.YtlholchmgheemaaDoorP16
import Derived.Maps.RangeWalk
import Derived.Maps.AppendAt
import Derived.Lib.Strings
/-
  Slices of strings, slices of pairs, maps of slices of strings, all of the call's own.
-/
namespace Go.Proofs.YtlholchmgheemaaDoor
set_option linter.unusedVariables false
set_option linter.unusedSimpArgs false
open Go.RowKit Go.Maps

theorem infoStr : (Tryd.prog.info? 9).map (fun i => (i.zero, i.size, i.bytes)) = some (some (.string ⟨#[]⟩), 1, 16) := by kernel_rfl
theorem before_lt : ∀ (a b : List UInt8), bytesBefore a b = NU.lt a b
  | [], [] => rfl
  | [], _ :: _ => rfl
  | _ :: _, [] => rfl
  | x :: a, y :: b => by rw [bytesBefore, NU.lt, before_lt a b]
theorem less_lt : ∀ (a b : List UInt8), Op.bytesLess a b = NU.lt a b
  | [], [] => rfl
  | [], _ :: _ => rfl
  | _ :: _, [] => rfl
  | x :: a, y :: b => by rw [Op.bytesLess, NU.lt, less_lt a b]

/-! ### a slice of strings -/
def sCells (l : List (List UInt8)) : List Value := l.map fun s => Value.string (mk s)
theorem sCells_len (l : List (List UInt8)) : (sCells l).length = l.length := by simp [sCells]
theorem sCells_at (l : List (List UInt8)) (j : Nat) (h : j < l.length) : (sCells l)[j]? = some (.string (mk l[j])) := by simp [sCells, h]
/-- v is a slice of strings that was made since B, with the strings l. -/
def SRow (B : Nat) (w : World) (v : Value) (l : List (List UInt8)) : Prop := w.ownsRow B 9 1 v l.length (sCells l)
theorem SRow.nil (B : Nat) (w : World) : SRow B w (.slice none 0 0) [] := World.ownsRow_nil _ _ _ _
section
variable {B : Nat} {w w' : World} {v : Value} {l : List (List UInt8)}
theorem SRow.kept (h : SRow B w v l) {row : Option Nat} (hg : w.grownBy w' row) (hne : v.ownBlock = none ∨ v.ownBlock ≠ row) : SRow B w' v l := World.ownsRow.kept h hg hne
theorem SRow.alloc (h : SRow B w v l) (o : Obj) : SRow B (w.alloc o) v l := World.ownsRow.alloc h o
theorem SRow.lt (h : SRow B w v l) {g : Nat} (hg : v.ownBlock = some g) : B ≤ g ∧ g < w.heap.size := World.ownsRow.lt h g hg
theorem SRow.form (h : SRow B w v l) (h0 : l ≠ []) : ∃ g cap, v = .slice (some ⟨g, 0, none⟩) l.length cap ∧ B ≤ g ∧ g < w.heap.size ∧ ∀ (j : Nat) (hj : j < l.length), w.cell? ⟨g, j, none⟩ = some (.string (mk l[j])) := by
  have hl : l.length ≠ 0 := fun e => h0 (List.eq_nil_of_length_eq_zero e)
  rcases h.2 with ⟨_, hn⟩ | ⟨g, cap, cur, hv, hb, hg, hn, hc, hs, ht⟩
  · exact absurd hn hl
  · refine ⟨g, cap, hv, hb, (Array.getElem?_eq_some_iff.1 hg).1, fun j hj => ?_⟩
    have := World.ownsRow.cells h (g := g) (by rw [hv]; rfl) j _ (sCells_at l j hj)
    rw [show (⟨g, 0, none⟩ : Addr).add j = ⟨g, j, none⟩ by unfold Addr.add; split <;> simp_all] at this
    exact this
theorem SRow.any (h : SRow B w v l) : ∃ a cap, v = .slice a l.length cap := by
  by_cases h0 : l = []
  · subst h0
    rcases h.2 with ⟨hv, hn⟩ | ⟨g, cap, cur, hv, _⟩
    · exact ⟨none, 0, hv⟩
    · exact ⟨_, cap, hv⟩
  · obtain ⟨g, cap, hv, _⟩ := h.form h0; exact ⟨_, cap, hv⟩
end
/-- A string is appended (the slice of the one string has just been made). -/
theorem wpList_spush {ops : Array Oper} {rest : List Oper} {o : Oper} {a : Act} {Q : Exit → Act → World → Prop} (hgd : o.guard = none) (s x : Operand)
    (ho : o.op = .call { callee := .builtin .append, args := #[s, x], argTypes := #[38, 38] })
    (B : Nat) (v : Value) (l : List (List UInt8)) (c : ByteArray) (w : World) (hB : B ≤ w.heap.size) (hl : l.length ≤ 4398046511104) (hs : a.eval s = v) (h : Hid (SRow B w v l))
    (hx : a.eval x = .slice (some ⟨w.heap.size, 0, none⟩) 1 1)
    (hk : ∀ g cap w', SRow B w' (.slice (some ⟨g, 0, none⟩) (l.length + 1) cap) (l ++ [L c]) → w.grownBy w' v.ownBlock → (v.ownBlock = some g ∨ w.heap.size ≤ g) → wpList Tryd.prog ops Q rest (a.put o.dst (.slice (some ⟨g, 0, none⟩) (l.length + 1) cap)) w') :
    wpList Tryd.prog ops Q (o :: rest) a (w.alloc (.cells #[.string c] 9)) := by
  obtain ⟨i0, hi, hz0, hz1, hz2⟩ := info_parts infoStr
  refine wpList_append_own_at _ hgd s x 38 ho B 9 i0 (.string ⟨#[]⟩) 1 16 Tryd.underlying38 hi hz0 hz1 hz2 rfl (by decide) v l.length (sCells l) hs (World.ownsRow.alloc h.out _) ⟨w.heap.size, 0, none⟩ 1 1 [.string c] hx rfl (cell_one_new _ _ _) ?_ ?_ ?_ ?_ ?_
  · intro u hu; simp at hu; subst hu; rfl
  · unfold maxLen; omega
  · omega
  · simp; omega
  · intro v' w' hown' hgrow _ hat
    have hrow : SRow B w' v' (l ++ [L c]) := by
      show w'.ownsRow B 9 1 v' (l ++ [L c]).length (sCells (l ++ [L c]))
      have e : sCells (l ++ [L c]) = sCells l ++ [.string c] := by simp [sCells, mk_L]
      rw [e, List.length_append]; exact hown'
    obtain ⟨g, cap, hv, hb, _⟩ := hrow.form (by simp)
    rw [List.length_append] at hv
    subst hv
    refine hk g cap w' hrow ((World.grownBy_alloc _ _ _).trans hgrow) ?_
    rcases hat with h1 | h1
    · left; rw [← h1]; rfl
    · right
      have : g = (w.alloc (.cells #[.string c] 9)).heap.size := by simpa [Value.ownBlock] using h1
      rw [this]; simp

/-! ### the slices' values as data of a map -/
def codeS (g n cap : Nat) : DataW Unit := .agg [.lit (.int .i64 g), .lit (.int .i64 n), .lit (.int .i64 cap)]
def Rsl : Value → Option (DataW Unit × List MemPlace)
  | .slice none n cap => if n = 0 ∧ cap = 0 then some (.nil, []) else none
  | .slice (some a) n cap => if a.off = 0 ∧ a.spot = none then some (codeS a.block n cap, []) else none
  | _ => none
theorem Rsl_nil : Rsl (.slice none 0 0) = some (.nil, []) := rfl
theorem Rsl_some (g n cap : Nat) : Rsl (.slice (some ⟨g, 0, none⟩) n cap) = some (codeS g n cap, []) := rfl
theorem Rsl_inv {v : Value} {d : DataW Unit} {ps : List MemPlace} (h : Rsl v = some (d, ps)) : ps = [] ∧ ((v = .slice none 0 0 ∧ d = .nil) ∨ ∃ g n cap, v = .slice (some ⟨g, 0, none⟩) n cap ∧ d = codeS g n cap) := by
  unfold Rsl at h
  split at h
  · rename_i n cap
    split at h
    · rename_i hc; cases h; obtain ⟨rfl, rfl⟩ := hc; exact ⟨rfl, .inl ⟨rfl, rfl⟩⟩
    · cases h
  · rename_i a n cap
    split at h
    · rename_i hc
      cases h
      obtain ⟨b, o, sp⟩ := a
      obtain ⟨rfl, rfl⟩ := hc
      exact ⟨rfl, .inr ⟨b, n, cap, rfl, rfl⟩⟩
    · cases h
  · cases h
theorem Rsl_inj {v v' : Value} {d : DataW Unit} {ps ps' : List MemPlace} (h : Rsl v = some (d, ps)) (h' : Rsl v' = some (d, ps')) : v = v' := by
  obtain ⟨_, h⟩ := Rsl_inv h
  obtain ⟨_, h'⟩ := Rsl_inv h'
  rcases h with ⟨rfl, rfl⟩ | ⟨g, n, cap, rfl, rfl⟩
  · rcases h' with ⟨rfl, _⟩ | ⟨g, n, cap, _, e⟩
    · rfl
    · cases e
  · rcases h' with ⟨_, e⟩ | ⟨g', n', cap', rfl, e⟩
    · cases e
    · simp only [codeS, DataW.agg.injEq, List.cons.injEq, DataW.lit.injEq, Lit.int.injEq, true_and, and_true] at e
      obtain ⟨e1, e2, e3⟩ := e
      obtain rfl : g = g' := by omega
      obtain rfl : n = n' := by omega
      obtain rfl : cap = cap' := by omega
      rfl
def codeOf (v : Value) : DataW Unit := ((Rsl v).map (·.1)).getD .nil
abbrev SL := List (List UInt8 × Value)
def dents (S : SL) : List (Lit × DataW Unit) := S.map fun p => (Lit.string p.1, codeOf p.2)
/-- What a map reads as that holds these slices. -/
def dmap (S : SL) : DataW Unit := .map (dents S)
theorem same_str (a b : List UInt8) : (Lit.string a).sameKey (.string b) = (a == b) := rfl
theorem dmap_at (S : SL) (k : List UInt8) (z : DataW Unit) : (dmap S).atKey (.string k) z = ((NU.look k S).map codeOf).getD z := by
  unfold dmap DataW.atKey
  simp only
  induction S with
  | nil => rfl
  | cons q r ih =>
    rw [dents, List.map_cons, List.find?_cons, NU.look]
    simp only [same_str]
    by_cases e : q.1 = k
    · rw [if_pos e]; simp [e]
    · rw [if_neg e, show (q.1 == k) = false by simpa using e]
      exact ih
theorem dents_filter {S : SL} {k : List UInt8} (h : ∀ p ∈ S, p.1 ≠ k) : (dents S).filter (fun p => !p.1.sameKey (.string k)) = dents S := by
  refine List.filter_eq_self.2 (fun p hp => ?_)
  obtain ⟨q, hq, rfl⟩ := List.mem_map.1 hp
  show (!(Lit.string q.1).sameKey (.string k)) = true
  rw [same_str]; simpa using h q hq
theorem dmap_put (S : SL) (k : List UInt8) (v : Value) (h : NU.Srt S) : (dmap S).put (.string k) (codeOf v) = dmap (NU.upd (fun _ => v) k S) := by
  unfold dmap DataW.put
  simp only
  congr 1
  induction S with
  | nil => rfl
  | cons q r ih =>
    obtain ⟨h1, h2⟩ := List.pairwise_cons.1 h
    by_cases hl : NU.lt q.1 k = true
    · have hne := NU.lt_ne hl
      rw [NU.upd, if_pos hl, dents, List.map_cons, List.filter_cons_of_pos (by rw [same_str]; simpa using hne), DataW.insert, if_neg (by
        show ¬ (Lit.string k).before (.string q.1) = true
        rw [show (Lit.string k).before (.string q.1) = bytesBefore k q.1 from rfl, before_lt, NU.lt_asymm _ _ hl]; simp)]
      rw [dents, List.map_cons]
      congr 1
      exact ih h2
    · by_cases e : q.1 = k
      · rw [NU.upd, if_neg hl, if_pos e, dents, List.map_cons, List.filter_cons_of_neg (by rw [same_str]; simpa using e)]
        rw [show List.filter (fun p => !p.1.sameKey (.string k)) (List.map (fun p => (Lit.string p.1, codeOf p.2)) r) = dents r from dents_filter (fun p hp => by rw [← e]; exact (NU.lt_ne (h1 p hp)).symm)]
        show DataW.insert (Lit.string k, codeOf v) (dents r) = (Lit.string k, codeOf v) :: dents r
        cases r with
        | nil => rfl
        | cons p r' =>
          rw [dents, List.map_cons, DataW.insert, if_pos (by
            show (Lit.string k).before (.string p.1) = true
            rw [show (Lit.string k).before (.string p.1) = bytesBefore k p.1 from rfl, before_lt, ← e]; exact h1 p (by simp))]
      · have hk : NU.lt k q.1 = true := by
          rcases NU.lt_total k q.1 (fun e' => e e'.symm) with h' | h'
          · exact h'
          · exact absurd h' hl
        rw [NU.upd, if_neg hl, if_neg e, dents_filter (fun p hp => by
          rcases List.mem_cons.1 hp with rfl | hp
          · exact e
          · exact (NU.lt_ne (NU.lt_trans _ _ _ hk (h1 p hp))).symm)]
        rw [dents, List.map_cons, DataW.insert, if_pos (by
          show (Lit.string k).before (.string q.1) = true
          rw [show (Lit.string k).before (.string q.1) = bytesBefore k q.1 from rfl, before_lt]; exact hk)]
        rfl

/-! ### slices of strings by key, no two in one block -/
structure SVs (B : Nat) (w : World) (S : SL) (M : NU.QM) : Prop where
  ss : NU.Srt S
  sm : NU.Srt M
  same : ∀ k, (NU.look k S).isSome = (NU.look k M).isSome
  rows : ∀ k v l, NU.look k S = some v → NU.look k M = some l → SRow B w v l ∧ l ≠ []
  apart : ∀ k k' v v', NU.look k S = some v → NU.look k' S = some v' → k ≠ k' → v.ownBlock ≠ v'.ownBlock
theorem SVs.nil (B : Nat) (w : World) : SVs B w [] [] := ⟨NU.srt_nil, NU.srt_nil, fun _ => rfl, fun _ _ _ h => (by cases h), fun _ _ _ _ h => (by cases h)⟩
section
variable {B : Nat} {w w' : World} {S : SL} {M : NU.QM}
theorem SVs.row (h : SVs B w S M) {k : List UInt8} {v : Value} (hv : NU.look k S = some v) : ∃ l, NU.look k M = some l ∧ SRow B w v l ∧ l ≠ [] := by
  have := h.same k
  rw [hv] at this
  obtain ⟨l, hl⟩ := Option.isSome_iff_exists.1 this.symm
  exact ⟨l, hl, h.rows k v l hv hl⟩
theorem SVs.blk (h : SVs B w S M) {k : List UInt8} {v : Value} (hv : NU.look k S = some v) : ∃ g, v.ownBlock = some g ∧ B ≤ g ∧ g < w.heap.size := by
  obtain ⟨l, _, hr, h0⟩ := h.row hv
  obtain ⟨g, cap, rfl, h1, h2, _⟩ := hr.form h0
  exact ⟨g, rfl, h1, h2⟩
theorem SVs.kept (h : SVs B w S M) {row : Option Nat} (hg : w.grownBy w' row) (hrow : ∀ k v, NU.look k S = some v → v.ownBlock ≠ row) : SVs B w' S M :=
  ⟨h.ss, h.sm, h.same, fun k v l hv hl => ⟨(h.rows k v l hv hl).1.kept hg (.inr (hrow k v hv)), (h.rows k v l hv hl).2⟩, h.apart⟩
theorem SVs.mono {B' : Nat} (h : SVs B w S M) (hB : B' ≤ B) : SVs B' w S M :=
  ⟨h.ss, h.sm, h.same, fun k v l hv hl => ⟨by
    have hr := (h.rows k v l hv hl).1
    refine ⟨hr.1, ?_⟩
    rcases hr.2 with h1 | ⟨g, cap, cur, h1, h2, h3⟩
    · exact .inl h1
    · exact .inr ⟨g, cap, cur, h1, Nat.le_trans hB h2, h3⟩, (h.rows k v l hv hl).2⟩, h.apart⟩
/-- One more string at a key. -/
theorem SVs.put (h : SVs B w S M) {w1 : World} (k x : List UInt8) (v' : Value) {v : Value} {l : List (List UInt8)} (hv : v = (NU.look k S).getD (.slice none 0 0)) (hl : l = (NU.look k M).getD [])
    (hg : w.grownBy w1 v.ownBlock) (hr : SRow B w1 v' (l ++ [x])) {g : Nat} (hv' : v'.ownBlock = some g) (hloc : v.ownBlock = some g ∨ w.heap.size ≤ g) :
    SVs B w1 (NU.upd (fun _ => v') k S) (NU.qput k x M) := by
  have others : ∀ k' u, NU.look k' S = some u → k' ≠ k → u.ownBlock ≠ v.ownBlock := by
    intro k' u hu hne
    cases ho : NU.look k S with
    | none =>
      rw [ho] at hv; subst hv
      obtain ⟨g', hg', _⟩ := h.blk hu
      rw [hg']; simp [Value.ownBlock]
    | some z =>
      rw [ho] at hv
      have hv : v = z := hv
      subst hv
      exact h.apart k' k u v hu ho hne
  have newne : ∀ k' u, NU.look k' S = some u → k' ≠ k → u.ownBlock ≠ some g := by
    intro k' u hu hne
    rcases hloc with h1 | h1
    · rw [← h1]; exact others k' u hu hne
    · obtain ⟨g', hg', _, hlt⟩ := h.blk hu
      rw [hg']; intro e; cases e; omega
  refine ⟨NU.srt_upd _ _ _ h.ss, NU.srt_upd _ _ _ h.sm, fun k' => ?_, fun k' u m hu hm => ?_, fun k1 k2 u1 u2 h1 h2 hne => ?_⟩
  · unfold NU.qput
    rw [NU.look_upd _ _ _ _ h.ss, NU.look_upd _ _ _ _ h.sm]
    split
    · rfl
    · exact h.same k'
  · unfold NU.qput at hm
    rw [NU.look_upd _ _ _ _ h.ss] at hu
    rw [NU.look_upd _ _ _ _ h.sm] at hm
    by_cases e : k' = k
    · rw [if_pos e] at hu hm
      cases hu; cases hm
      rw [← hl]
      exact ⟨hr, by simp⟩
    · rw [if_neg e] at hu hm
      exact ⟨(h.rows k' u m hu hm).1.kept hg (.inr (others k' u hu e)), (h.rows k' u m hu hm).2⟩
  · rw [NU.look_upd _ _ _ _ h.ss] at h1 h2
    by_cases e1 : k1 = k
    · rw [if_pos e1] at h1
      cases h1
      have e2 : k2 ≠ k := fun e => hne (e1.trans e.symm)
      rw [if_neg e2] at h2
      rw [hv']; exact (newne k2 u2 h2 e2).symm
    · rw [if_neg e1] at h1
      by_cases e2 : k2 = k
      · rw [if_pos e2] at h2
        cases h2
        rw [hv']; exact newne k1 u1 h1 e1
      · rw [if_neg e2] at h2
        exact h.apart k1 k2 u1 u2 h1 h2 hne
end

/-! ### a map of such slices -/
theorem lawK : Keyed Tryd.prog 9 := string_keyed Tryd.underlying9
theorem zeroSl (w : World) : (zeroValue 38).run Tryd.prog w = .ok (.slice none 0 0) w := by kernel_rfl
/-- Block b is a map of at most n keys that holds the slices S, which hold the strings M. -/
def Gmap (B : Nat) (w : World) (b n : Nat) (S : SL) (M : NU.QM) : Prop :=
  SVs B w S M ∧ w.ownsMap Tryd.prog 9 Rsl b n (dmap S) ∧ ∀ k v, NU.look k S = some v → v.ownBlock ≠ some b
theorem Gmap.made (w : World) (B : Nat) : Gmap B (w.alloc (.map #[] 0)) w.heap.size 0 [] [] :=
  ⟨SVs.nil _ _, World.ownsMap_made _ _ _ _, fun _ _ h => (by cases h)⟩
section
variable {B : Nat} {w w' : World} {S : SL} {M : NU.QM} {b n : Nat}
theorem Gmap.kept (h : Gmap B w b n S M) {row : Option Nat} (hg : w.grownBy w' row) (hb : some b ≠ row) (hrow : ∀ k v, NU.look k S = some v → v.ownBlock ≠ row) : Gmap B w' b n S M :=
  ⟨h.1.kept hg hrow, h.2.1.kept hg hb, h.2.2⟩
theorem grownBy_of_fr {w w' : World} (h : Fr w w') : w.grownBy w' none := ⟨h.os, h.tape, h.output, h.size, fun k hk _ => h.block k hk⟩
theorem Gmap.fr (h : Gmap B w b n S M) (hf : Fr w w') : Gmap B w' b n S M :=
  h.kept (grownBy_of_fr hf) (by simp) (fun k v hv => by obtain ⟨g, hg, _⟩ := h.1.blk hv; rw [hg]; simp)
end
section
variable {ops : Array Oper} {rest : List Oper} {o : Oper} {a : Act} {w : World} {Q : Exit → Act → World → Prop}
/-- m[k]. -/
theorem wpList_look_g (hgd : o.guard = none) (m x : Operand) (hop : o.op = Op.lookup 47 m x false) (B b n : Nat) (S : SL) (M : NU.QM) (hm : a.eval m = .map (some b)) (h : Hid (Gmap B w b n S M))
    (key : ByteArray) (hx : a.eval x = .string key) (hz : key.size ≤ 70368744177664)
    (hK : ∀ v l, v = (NU.look (L key) S).getD (.slice none 0 0) → l = (NU.look (L key) M).getD [] → Hid (SRow B w v l) → wpList Tryd.prog ops Q rest (a.put o.dst v) w) : wpList Tryd.prog ops Q (o :: rest) a w := by
  refine wpList_plain hgd fun K' hK' => ?_
  obtain ⟨v, ps, hrun, hv⟩ := h.out.2.1.lookup lawK Tryd.underlying47 (zeroSl w) Rsl_nil (WideMaps.keyOf_string_mk Tryd.underlying9 (s := key) (by unfold maxLen; omega))
  rw [dmap_at] at hv
  have hvv : v = (NU.look (L key) S).getD (.slice none 0 0) ∧ SRow B w v ((NU.look (L key) M).getD []) := by
    cases ho : NU.look (L key) S with
    | none =>
      have hs := h.out.1.same (L key)
      rw [ho] at hs hv
      have hm0 : NU.look (L key) M = none := by
        cases h0 : NU.look (L key) M with
        | none => rfl
        | some _ => rw [h0] at hs; cases hs
      have := Rsl_inj hv (show Rsl (.slice none 0 0) = some (((none : Option Value).map codeOf).getD .nil, []) from rfl)
      subst this
      rw [hm0]
      exact ⟨rfl, SRow.nil _ _⟩
    | some z =>
      obtain ⟨l, hl, hr, h0⟩ := h.out.1.row ho
      obtain ⟨g, cap, hzf, _⟩ := hr.form h0
      rw [ho] at hv
      have hz : Rsl z = some (((some z).map codeOf).getD .nil, []) := by subst hzf; rfl
      have := Rsl_inj hv hz
      subst this
      rw [hl]
      exact ⟨rfl, hr⟩
  unfold Oper.wp
  simp [execOp, hop, hm, hx, hrun, Result.andThen]
  exact hK' _ _ (hK v _ hvv.1 rfl (Lib.hid hvv.2))
/-- m[k] = v. -/
theorem wpList_put_g (hgd : o.guard = none) (m x v : Operand) (hop : o.op = Op.mapUpdate 47 m x v) (b n : Nat) (S : SL) (hm : a.eval m = .map (some b)) (h : w.ownsMap Tryd.prog 9 Rsl b n (dmap S)) (hs : NU.Srt S)
    (hn : n ≤ 4398046511104) (key : ByteArray) (hx : a.eval x = .string key) (hz : key.size ≤ 70368744177664) (g c cap : Nat) (hv : a.eval v = .slice (some ⟨g, 0, none⟩) c cap)
    (hK : ∀ w', w'.ownsMap Tryd.prog 9 Rsl b (n + 1) (dmap (NU.upd (fun _ => .slice (some ⟨g, 0, none⟩) c cap) (L key) S)) → w.grownBy w' (some b) → wpList Tryd.prog ops Q rest (a.put o.dst undef) w') : wpList Tryd.prog ops Q (o :: rest) a w := by
  refine wpList_mapUpdate_own w hgd m x v 47 hop 9 38 lawK Tryd.underlying47 Rsl b n (dmap S) hm h (by unfold maxLen; omega) _ _ _ hx hv
    (WideMaps.keyOf_string_mk Tryd.underlying9 (s := key) (by unfold maxLen; omega)) _ _ (Rsl_some g c cap) ?_
  intro w' hown hgr
  refine hK w' ?_ hgr
  rw [← dmap_put S (L key) _ hs]
  exact hown
end
end Go.Proofs.YtlholchmgheemaaDoor
