import Derived.Below
import Derived.ChangeSame
import Derived.Lib.LaidTab
import Derived.Test.YtibcegbacnjmfaaGreatDoorW21
import Derived.SliceStrings
import Derived.Test.YtibcegbacnjmfaaGreatDoorW17
import Derived.WideShapes
namespace Go.Proofs.YtibcegbacnjmfaaGreatDoor
set_option linter.unusedVariables false
set_option linter.unusedSimpArgs false
open Go.RowKit Go.WideShapes Go.ChangeShapes
section
variable {H : Type} {enc : TypeId × Value → H} {P : Program}
theorem post_of_below {f : Func} {s : ChangeSpec} {apart fresh handsOn again : Bool} {W W' : World} {args : Array Value} {v : Value} {ds gs : List (DataW H)} {before pa pv : List MemPlace}
    (hW : DataW.Whole enc P f.params.toList s.vars apart W args.toList ds gs before)
    (hres : ∀ (b : Nat) (sp : Nat → Bool) (hd : Bool), DataW.TrodAll enc P W' b sp hd f.resultTypes.toList (v.resultList f.resultTypes.size) (s.fn H (ds ++ gs)).results [])
    (hargs : ∀ sp : Nat → Bool, (∀ p ∈ before, sp p.block = true) → DataW.TrodAll enc P W' 0 sp true f.params.toList args.toList (s.fn H (ds ++ gs)).args pa)
    (hvars : ∀ sp : Nat → Bool, (∀ p ∈ before, sp p.block = true) → DataW.TrodVars enc P W' sp s.vars (s.fn H (ds ++ gs)).vars pv)
    (hps : before = pa ++ pv) (hb : Below W.heap.size W W')
    (hok : ∀ (j : Nat) (t : TypeId) (r : Value), f.resultTypes[j]? = some t → (v.resultList f.resultTypes.size)[j]? = some r → Value.okWide P W' .any 0 t r) :
    s.post enc P f apart fresh handsOn again W args v W' := by
  have hlt : ∀ p ∈ before, p.block < W.heap.size := fun p hp => hW.lt p hp
  have hold : ∀ p ∈ before, (fun b => decide (b < W.heap.size)) p.block = true := fun p hp => by simpa using hlt p hp
  refine ⟨ds, gs, before, [], pa, pv, hW, hres _ _ _, hargs _ hold, hvars _ hold, World.keptBut_mono (fun p hp => ⟨hp, ?_⟩) (hb.frame (· ∈ before)), fun _ => ?_⟩
  · rw [hps, List.mem_append] at hp
    exact Or.inr hp
  · obtain ⟨_, _, _, _, _, hz, hn⟩ := hW
    refine ⟨hok, _, _, ([] ++ pa) ++ pv, ⟨[] ++ pa, pv, trodAll_append (hargs _ (fun _ _ => rfl)) (hres _ _ _), hvars _ (fun _ _ => rfl), rfl, ?_, ?_⟩, ?_⟩
    · intro b off hp
      have hin : MemPlace.cell b off ∈ before := by rw [hps]; simpa using hp
      rw [hb.frozen (hlt _ hin)]
      exact hz b off hin
    · intro ha
      have := hn ha
      rw [hps] at this
      simpa using this
    · intro p hp _
      rw [hps]
      simpa using hp
end
end Go.Proofs.YtibcegbacnjmfaaGreatDoor
namespace Go.Proofs.YtibcegbacnjmfaaGreatDoor
set_option linter.unusedVariables false
set_option linter.unusedSimpArgs false
/-- What a list says of the variable at one place. -/
theorem laidVars_at {P : Program} {w : World} : ∀ {l : List (String × DataW Unit)} {ps : List MemPlace}, DataW.LaidVars P w l ps → ∀ {i : Nat} {n : String} {d : DataW Unit}, l[i]? = some (n, d) →
    ∃ g t cs fuel p, P.globalNamed n = some g ∧ (P.globals[g]?).map (·.type) = some t ∧ w.var? P n = some cs ∧ DataW.trod (fun _ => ()) P w 0 (fun _ => true) false fuel t cs.toList = some (d, p)
  | [], _, _, _, _, _, hi => by simp at hi
  | (m, e) :: r, _, ⟨g, t, cs, fuel, p, q, h1, h2, h3, h4, h5, _⟩, 0, n, d, hi => by
    simp at hi
    obtain ⟨rfl, rfl⟩ := hi
    exact ⟨g, t, cs, fuel, p, h1, h2, h3, h4⟩
  | (m, e) :: r, _, ⟨g, t, cs, fuel, p, q, h1, h2, h3, h4, h5, _⟩, i + 1, n, d, hi => laidVars_at h5 (by simpa using hi)
/-- .. its places among the list's. -/
theorem laidVars_in {P : Program} {w : World} : ∀ {l : List (String × DataW Unit)} {ps : List MemPlace}, DataW.LaidVars P w l ps → ∀ {i : Nat} {n : String} {d : DataW Unit}, l[i]? = some (n, d) →
    ∃ g t cs fuel p, P.globalNamed n = some g ∧ (P.globals[g]?).map (·.type) = some t ∧ w.var? P n = some cs ∧ DataW.trod (fun _ => ()) P w 0 (fun _ => true) false fuel t cs.toList = some (d, p) ∧ ∀ x ∈ p, x ∈ ps
  | [], _, _, _, _, _, hi => by simp at hi
  | (m, e) :: r, _, ⟨g, t, cs, fuel, p, q, h1, h2, h3, h4, h5, hp⟩, 0, n, d, hi => by
    simp at hi
    obtain ⟨rfl, rfl⟩ := hi
    exact ⟨g, t, cs, fuel, p, h1, h2, h3, h4, fun x hx => by rw [hp]; simp [hx]⟩
  | (m, e) :: r, _, ⟨g, t, cs, fuel, p, q, h1, h2, h3, h4, h5, hp⟩, i + 1, n, d, hi => by
    obtain ⟨g', t', cs', fuel', p', a1, a2, a3, a4, a5⟩ := laidVars_in h5 (i := i) (by simpa using hi)
    exact ⟨g', t', cs', fuel', p', a1, a2, a3, a4, fun x hx => by rw [hp]; simp [a5 x hx]⟩
theorem tabIs_at {P : Program} {W : World} {name : String} {k : IntKind} {zs : List Int} {g : Nat} {t e : TypeId} {n i : Nat} {l : List (String × DataW Unit)}
    (hg : P.globalNamed name = some g) (hty : (P.globals[g]?).map (·.type) = some t) (ht : P.underlying t = some (.array n e)) (he : P.underlying e = some (.int k)) (hce : P.cellsOf e = 1) (hct : P.cellsOf t = n)
    (hi : l[i]? = some (name, Lib.tabData k zs)) (h : laidMet P l W) : Lib.TabIs P W name k zs := by
  obtain ⟨ps, hv, _⟩ := h
  obtain ⟨g', t', cs, fuel, p, hg', ht', hvar, hd⟩ := laidVars_at hv hi
  obtain rfl := Option.some.inj (hg.symm.trans hg')
  obtain rfl := Option.some.inj (hty.symm.trans ht')
  unfold Lib.TabIs
  rw [hvar, ← Lib.cells_of_tab ht he hce hct hd]
end Go.Proofs.YtibcegbacnjmfaaGreatDoor
namespace Go.Proofs.YtibcegbacnjmfaaGreatDoor
set_option linter.unusedVariables false
set_option linter.unusedSimpArgs false
open Go.ChangeShapes
theorem hty_cells : Tryz.prog.cellsOf 119 = 1 := by kernel_rfl
theorem hptr_cells : Tryz.prog.cellsOf 117 = 1 := by kernel_rfl
theorem hdet_cells : Tryz.prog.cellsOf 156 = 2 := by kernel_rfl
theorem hbool_cells : Tryz.prog.cellsOf 4 = 1 := by kernel_rfl
set_option maxRecDepth 100000 in
theorem handle_nil {W : World} {l : List (String × DataW Unit)} {i : Nat} {name : String} {g : Nat} (hg : Tryz.prog.globalNamed name = some g) (hty : (Tryz.prog.globals[g]?).map (·.type) = some 119)
    (hi : l[i]? = some (name, .agg [.nil])) (h : laidMet Tryz.prog l W) : W.cell? ⟨g, 0, none⟩ = some (.pointer none) := by
  obtain ⟨ps, hv, _⟩ := h
  obtain ⟨g', t', cs, fuel, p, hg', ht', hvar, hd⟩ := laidVars_at hv hi
  obtain rfl := Option.some.inj (hg.symm.trans hg')
  obtain rfl := Option.some.inj (hty.symm.trans ht')
  obtain ⟨xs, m, rfl, hx, hl, hxl, hf⟩ := DataW.trod_struct Tryz.underlying119 hd
  rw [hty_cells] at hl
  obtain ⟨c0, hc0⟩ : ∃ c0, cs.toList = [c0] := by
    match cs.toList, hl with
    | [a], _ => exact ⟨a, rfl⟩
  have h0 := hf 0 _ rfl
  change DataW.trod (fun _ => ()) Tryz.prog W 0 (fun _ => true) false m 117 ((cs.toList.drop 0).take (Tryz.prog.cellsOf 117)) = xs[0]? at h0
  rw [hptr_cells, hc0] at h0
  have hxs : xs.map (·.1) = [.nil] := by
    have := congrArg Prod.fst hx
    simpa using this.symm
  obtain ⟨y, rfl⟩ : ∃ y, xs = [y] := by
    match xs, hxs with
    | [y], _ => exact ⟨y, rfl⟩
  have hy : y.1 = .nil := by simpa using hxs
  rcases DataW.trod_pointer Tryz.underlying117 h0 with ⟨he, _⟩ | ⟨a, cs', y', n, _, he, hy', _⟩
  · have : c0 = .pointer none := by simpa using he
    rw [World.var?_cell hg hvar 0, ← Array.getElem?_toList, hc0, this]; rfl
  · rw [hy'] at hy; cases hy
set_option maxRecDepth 100000 in
theorem handle_at {W : World} {l : List (String × DataW Unit)} {i : Nat} {name : String} {g : Nat} {b : Bool} (hg : Tryz.prog.globalNamed name = some g) (hty : (Tryz.prog.globals[g]?).map (·.type) = some 119)
    (hi : l[i]? = some (name, .agg [.ptr (.agg [.lit (.bool b), .lit (.string [])])])) (h : laidMet Tryz.prog l W) : ∃ a, W.cell? ⟨g, 0, none⟩ = some (.pointer (some a)) ∧ W.cell? a = some (.bool b) ∧ ∃ c t, W.heap[a.block]? = some (.cells c t (0, 0)) := by
  obtain ⟨ps, hv, _, hblk⟩ := h
  obtain ⟨g', t', cs, fuel, p, hg', ht', hvar, hd, hin⟩ := laidVars_in hv hi
  obtain rfl := Option.some.inj (hg.symm.trans hg')
  obtain rfl := Option.some.inj (hty.symm.trans ht')
  obtain ⟨xs, m, rfl, hx, hl, hxl, hf⟩ := DataW.trod_struct Tryz.underlying119 hd
  rw [hty_cells] at hl
  obtain ⟨c0, hc0⟩ : ∃ c0, cs.toList = [c0] := by
    match cs.toList, hl with
    | [a], _ => exact ⟨a, rfl⟩
  have h0 := hf 0 _ rfl
  change DataW.trod (fun _ => ()) Tryz.prog W 0 (fun _ => true) false m 117 ((cs.toList.drop 0).take (Tryz.prog.cellsOf 117)) = xs[0]? at h0
  rw [hptr_cells, hc0] at h0
  have hxs : xs.map (·.1) = [.ptr (.agg [.lit (.bool b), .lit (.string [])])] := by
    have := congrArg Prod.fst hx
    simpa using this.symm
  obtain ⟨y, rfl⟩ : ∃ y, xs = [y] := by
    match xs, hxs with
    | [y], _ => exact ⟨y, rfl⟩
  have hy : y.1 = .ptr (.agg [.lit (.bool b), .lit (.string [])]) := by simpa using hxs
  rcases DataW.trod_pointer Tryz.underlying117 h0 with ⟨_, hy'⟩ | ⟨a, cs', y', n, _, he, hy', hcs, htr⟩
  · rw [hy'] at hy; cases hy
  · have hc : c0 = .pointer (some a) := by simpa using he
    refine ⟨a, by rw [World.var?_cell hg hvar 0, ← Array.getElem?_toList, hc0, hc]; rfl, ?_⟩
    rw [hdet_cells] at hcs
    obtain ⟨_, hcl, hce⟩ := World.cells?_some hcs
    obtain ⟨xs2, m2, _, hx2, _, hxl2, hf2⟩ := DataW.trod_struct Tryz.underlying156 htr
    have hyy : y'.1 = .agg [.lit (.bool b), .lit (.string [])] := by rw [hy'] at hy; simpa using hy
    have hxs2 : xs2.map (·.1) = [.lit (.bool b), .lit (.string [])] := by
      rw [hx2] at hyy; simpa using hyy
    obtain ⟨u, v, rfl⟩ : ∃ u v, xs2 = [u, v] := by
      match xs2, hxs2 with
      | [u, v], _ => exact ⟨u, v, rfl⟩
    have hu : u.1 = .lit (.bool b) := by
      have := congrArg List.head? hxs2
      simpa using this
    have h2 := hf2 0 _ rfl
    change DataW.trod (fun _ => ()) Tryz.prog W 0 (fun _ => true) false m2 4 ((cs'.drop 0).take (Tryz.prog.cellsOf 4)) = [u, v][0]? at h2
    rw [hbool_cells] at h2
    obtain ⟨b', he', hb'⟩ := DataW.trod_bool Tryz.underlying4 h2
    obtain ⟨d0, d1, hd⟩ : ∃ d0 d1, cs' = [d0, d1] := by
      match cs', hcl with
      | [d0, d1], _ => exact ⟨d0, d1, rfl⟩
    subst hd
    have e1 : d0 = .bool b' := by simpa using he'
    have e2 : b' = b := by
      rw [hb'] at hu
      simpa using hu
    have := hce 0 (by omega)
    rw [show a.add 0 = a by simp [Addr.add]] at this
    refine ⟨by rw [this, e1, e2]; rfl, ?_⟩
    have hp : p = y.2 := by
      have := congrArg Prod.snd hx
      simpa using this
    refine (hblk a.block a.off (hin _ ?_)).1
    rw [hp, hy', hdet_cells]
    have : MemPlace.cell a.block a.off ∈ MemPlace.row a 2 := by simp [MemPlace.row, List.range, List.range.loop]
    exact List.mem_append_left _ this
end Go.Proofs.YtibcegbacnjmfaaGreatDoor
namespace Go.Proofs.YtibcegbacnjmfaaGreatDoor
set_option linter.unusedVariables false
set_option linter.unusedSimpArgs false
open Go.RowKit Go.ChangeShapes Go.WideShapes

section
variable {H : Type} {enc : TypeId × Value → H} {W : World} {base : Nat} {sp : Nat → Bool} {held : Bool}
set_option maxRecDepth 100000 in
/-- An argument of type impl.URL, opened. -/
theorem iu_of_trod {n : Nat} {cs : List Value} {x : DataW H × List MemPlace} (hl : cs.length = 16) (h : DataW.trod enc Tryz.prog W base sp held n 28 cs = some x) : ∃ u : IUrl, cs = (iurlA u).toList := by
  obtain ⟨xs, m, rfl, _, _, hxl, hf⟩ := DataW.trod_struct Tryz.underlying28 h
  have hxl' : xs.length = 16 := by simpa using hxl
  have hcS : Tryz.prog.cellsOf 9 = 1 := by kernel_rfl
  have hcB : Tryz.prog.cellsOf 4 = 1 := by kernel_rfl
  obtain ⟨c0, c1, c2, c3, c4, c5, c6, c7, c8, c9, c10, c11, c12, c13, c14, c15, rfl⟩ : ∃ c0 c1 c2 c3 c4 c5 c6 c7 c8 c9 c10 c11 c12 c13 c14 c15, cs = [c0, c1, c2, c3, c4, c5, c6, c7, c8, c9, c10, c11, c12, c13, c14, c15] := by
    match cs, hl with
    | [a0, a1, a2, a3, a4, a5, a6, a7, a8, a9, a10, a11, a12, a13, a14, a15], _ => exact ⟨a0, a1, a2, a3, a4, a5, a6, a7, a8, a9, a10, a11, a12, a13, a14, a15, rfl⟩
  have h0 := hf 0 _ rfl
  change DataW.trod enc Tryz.prog W base sp held m 9 ((([c0, c1, c2, c3, c4, c5, c6, c7, c8, c9, c10, c11, c12, c13, c14, c15] : List Value).drop 0).take (Tryz.prog.cellsOf 9)) = xs[0]? at h0
  rw [hcS, List.getElem?_eq_getElem (show 0 < xs.length by omega)] at h0
  obtain ⟨s0, e0, _⟩ := DataW.trod_string Tryz.underlying9 h0
  obtain rfl : c0 = .string s0 := by simpa using e0
  have h1 := hf 1 _ rfl
  change DataW.trod enc Tryz.prog W base sp held m 9 ((([.string s0, c1, c2, c3, c4, c5, c6, c7, c8, c9, c10, c11, c12, c13, c14, c15] : List Value).drop 1).take (Tryz.prog.cellsOf 9)) = xs[1]? at h1
  rw [hcS, List.getElem?_eq_getElem (show 1 < xs.length by omega)] at h1
  obtain ⟨s1, e1, _⟩ := DataW.trod_string Tryz.underlying9 h1
  obtain rfl : c1 = .string s1 := by simpa using e1
  have h2 := hf 2 _ rfl
  change DataW.trod enc Tryz.prog W base sp held m 4 ((([.string s0, .string s1, c2, c3, c4, c5, c6, c7, c8, c9, c10, c11, c12, c13, c14, c15] : List Value).drop 2).take (Tryz.prog.cellsOf 4)) = xs[2]? at h2
  rw [hcB, List.getElem?_eq_getElem (show 2 < xs.length by omega)] at h2
  obtain ⟨s2, e2, _⟩ := DataW.trod_bool Tryz.underlying4 h2
  obtain rfl : c2 = .bool s2 := by simpa using e2
  have h3 := hf 3 _ rfl
  change DataW.trod enc Tryz.prog W base sp held m 9 ((([.string s0, .string s1, .bool s2, c3, c4, c5, c6, c7, c8, c9, c10, c11, c12, c13, c14, c15] : List Value).drop 3).take (Tryz.prog.cellsOf 9)) = xs[3]? at h3
  rw [hcS, List.getElem?_eq_getElem (show 3 < xs.length by omega)] at h3
  obtain ⟨s3, e3, _⟩ := DataW.trod_string Tryz.underlying9 h3
  obtain rfl : c3 = .string s3 := by simpa using e3
  have h4 := hf 4 _ rfl
  change DataW.trod enc Tryz.prog W base sp held m 4 ((([.string s0, .string s1, .bool s2, .string s3, c4, c5, c6, c7, c8, c9, c10, c11, c12, c13, c14, c15] : List Value).drop 4).take (Tryz.prog.cellsOf 4)) = xs[4]? at h4
  rw [hcB, List.getElem?_eq_getElem (show 4 < xs.length by omega)] at h4
  obtain ⟨s4, e4, _⟩ := DataW.trod_bool Tryz.underlying4 h4
  obtain rfl : c4 = .bool s4 := by simpa using e4
  have h5 := hf 5 _ rfl
  change DataW.trod enc Tryz.prog W base sp held m 9 ((([.string s0, .string s1, .bool s2, .string s3, .bool s4, c5, c6, c7, c8, c9, c10, c11, c12, c13, c14, c15] : List Value).drop 5).take (Tryz.prog.cellsOf 9)) = xs[5]? at h5
  rw [hcS, List.getElem?_eq_getElem (show 5 < xs.length by omega)] at h5
  obtain ⟨s5, e5, _⟩ := DataW.trod_string Tryz.underlying9 h5
  obtain rfl : c5 = .string s5 := by simpa using e5
  have h6 := hf 6 _ rfl
  change DataW.trod enc Tryz.prog W base sp held m 9 ((([.string s0, .string s1, .bool s2, .string s3, .bool s4, .string s5, c6, c7, c8, c9, c10, c11, c12, c13, c14, c15] : List Value).drop 6).take (Tryz.prog.cellsOf 9)) = xs[6]? at h6
  rw [hcS, List.getElem?_eq_getElem (show 6 < xs.length by omega)] at h6
  obtain ⟨s6, e6, _⟩ := DataW.trod_string Tryz.underlying9 h6
  obtain rfl : c6 = .string s6 := by simpa using e6
  have h7 := hf 7 _ rfl
  change DataW.trod enc Tryz.prog W base sp held m 9 ((([.string s0, .string s1, .bool s2, .string s3, .bool s4, .string s5, .string s6, c7, c8, c9, c10, c11, c12, c13, c14, c15] : List Value).drop 7).take (Tryz.prog.cellsOf 9)) = xs[7]? at h7
  rw [hcS, List.getElem?_eq_getElem (show 7 < xs.length by omega)] at h7
  obtain ⟨s7, e7, _⟩ := DataW.trod_string Tryz.underlying9 h7
  obtain rfl : c7 = .string s7 := by simpa using e7
  have h8 := hf 8 _ rfl
  change DataW.trod enc Tryz.prog W base sp held m 9 ((([.string s0, .string s1, .bool s2, .string s3, .bool s4, .string s5, .string s6, .string s7, c8, c9, c10, c11, c12, c13, c14, c15] : List Value).drop 8).take (Tryz.prog.cellsOf 9)) = xs[8]? at h8
  rw [hcS, List.getElem?_eq_getElem (show 8 < xs.length by omega)] at h8
  obtain ⟨s8, e8, _⟩ := DataW.trod_string Tryz.underlying9 h8
  obtain rfl : c8 = .string s8 := by simpa using e8
  have h9 := hf 9 _ rfl
  change DataW.trod enc Tryz.prog W base sp held m 4 ((([.string s0, .string s1, .bool s2, .string s3, .bool s4, .string s5, .string s6, .string s7, .string s8, c9, c10, c11, c12, c13, c14, c15] : List Value).drop 9).take (Tryz.prog.cellsOf 4)) = xs[9]? at h9
  rw [hcB, List.getElem?_eq_getElem (show 9 < xs.length by omega)] at h9
  obtain ⟨s9, e9, _⟩ := DataW.trod_bool Tryz.underlying4 h9
  obtain rfl : c9 = .bool s9 := by simpa using e9
  have h10 := hf 10 _ rfl
  change DataW.trod enc Tryz.prog W base sp held m 9 ((([.string s0, .string s1, .bool s2, .string s3, .bool s4, .string s5, .string s6, .string s7, .string s8, .bool s9, c10, c11, c12, c13, c14, c15] : List Value).drop 10).take (Tryz.prog.cellsOf 9)) = xs[10]? at h10
  rw [hcS, List.getElem?_eq_getElem (show 10 < xs.length by omega)] at h10
  obtain ⟨s10, e10, _⟩ := DataW.trod_string Tryz.underlying9 h10
  obtain rfl : c10 = .string s10 := by simpa using e10
  have h11 := hf 11 _ rfl
  change DataW.trod enc Tryz.prog W base sp held m 9 ((([.string s0, .string s1, .bool s2, .string s3, .bool s4, .string s5, .string s6, .string s7, .string s8, .bool s9, .string s10, c11, c12, c13, c14, c15] : List Value).drop 11).take (Tryz.prog.cellsOf 9)) = xs[11]? at h11
  rw [hcS, List.getElem?_eq_getElem (show 11 < xs.length by omega)] at h11
  obtain ⟨s11, e11, _⟩ := DataW.trod_string Tryz.underlying9 h11
  obtain rfl : c11 = .string s11 := by simpa using e11
  have h12 := hf 12 _ rfl
  change DataW.trod enc Tryz.prog W base sp held m 9 ((([.string s0, .string s1, .bool s2, .string s3, .bool s4, .string s5, .string s6, .string s7, .string s8, .bool s9, .string s10, .string s11, c12, c13, c14, c15] : List Value).drop 12).take (Tryz.prog.cellsOf 9)) = xs[12]? at h12
  rw [hcS, List.getElem?_eq_getElem (show 12 < xs.length by omega)] at h12
  obtain ⟨s12, e12, _⟩ := DataW.trod_string Tryz.underlying9 h12
  obtain rfl : c12 = .string s12 := by simpa using e12
  have h13 := hf 13 _ rfl
  change DataW.trod enc Tryz.prog W base sp held m 4 ((([.string s0, .string s1, .bool s2, .string s3, .bool s4, .string s5, .string s6, .string s7, .string s8, .bool s9, .string s10, .string s11, .string s12, c13, c14, c15] : List Value).drop 13).take (Tryz.prog.cellsOf 4)) = xs[13]? at h13
  rw [hcB, List.getElem?_eq_getElem (show 13 < xs.length by omega)] at h13
  obtain ⟨s13, e13, _⟩ := DataW.trod_bool Tryz.underlying4 h13
  obtain rfl : c13 = .bool s13 := by simpa using e13
  have h14 := hf 14 _ rfl
  change DataW.trod enc Tryz.prog W base sp held m 9 ((([.string s0, .string s1, .bool s2, .string s3, .bool s4, .string s5, .string s6, .string s7, .string s8, .bool s9, .string s10, .string s11, .string s12, .bool s13, c14, c15] : List Value).drop 14).take (Tryz.prog.cellsOf 9)) = xs[14]? at h14
  rw [hcS, List.getElem?_eq_getElem (show 14 < xs.length by omega)] at h14
  obtain ⟨s14, e14, _⟩ := DataW.trod_string Tryz.underlying9 h14
  obtain rfl : c14 = .string s14 := by simpa using e14
  have h15 := hf 15 _ rfl
  change DataW.trod enc Tryz.prog W base sp held m 9 ((([.string s0, .string s1, .bool s2, .string s3, .bool s4, .string s5, .string s6, .string s7, .string s8, .bool s9, .string s10, .string s11, .string s12, .bool s13, .string s14, c15] : List Value).drop 15).take (Tryz.prog.cellsOf 9)) = xs[15]? at h15
  rw [hcS, List.getElem?_eq_getElem (show 15 < xs.length by omega)] at h15
  obtain ⟨s15, e15, _⟩ := DataW.trod_string Tryz.underlying9 h15
  obtain rfl : c15 = .string s15 := by simpa using e15
  exact ⟨⟨s0, s1, s2, s3, s4, s5, s6, s7, s8, s9, s10, s11, s12, s13, s14, s15⟩, rfl⟩
set_option maxRecDepth 100000 in
theorem open_iu {v : Value} {d : DataW H} {p : List MemPlace} {r : Reach} {b0 : Nat} (hv : Value.okWide Tryz.prog W r b0 28 v) (h : DataW.Trod enc Tryz.prog W base sp held 28 v d p) : ∃ u : IUrl, v = .agg (iurlA u) := by
  obtain ⟨cs, rfl, hsz⟩ := okWide_struct Tryz.underlying28 hv
  obtain ⟨n, h⟩ := h
  have hc : Tryz.prog.cellsOf 28 = 16 := by kernel_rfl
  obtain ⟨u, hu⟩ := iu_of_trod (cs := cs.toList) (by simpa [hc] using hsz) h
  exact ⟨u, by rw [← Array.toList_inj.1 hu]⟩
end
end Go.Proofs.YtibcegbacnjmfaaGreatDoor
