import Derived.Lib.LaidTab
namespace Go.Proofs.YtibcegbacnjmfaaGreatDoor
set_option linter.unusedVariables false
set_option linter.unusedSimpArgs false
/-- What a list says of the variable at one place. -/
theorem laidVars_at {P : Program} {w : World} : ∀ {l : List (String × DataW Unit)} {ps : List MemPlace}, DataW.LaidVars P w l ps → ∀ {i : Nat} {n : String} {d : DataW Unit}, l[i]? = some (n, d) →
    ∃ g t cs fuel p, P.globalNamed n = some g ∧ (P.globals[g]?).map (·.type) = some t ∧ w.var? P n = some cs ∧ DataW.trod (fun _ => ()) P w 0 (fun _ => true) false fuel t cs.toList = some (d, p)
  | [], _, _, _, _, _, hi => by simp at hi
  | (m, e) :: r, _, ⟨g, t, cs, fuel, p, q, h1, h2, h3, h4, h5, _⟩, 0, n, d, hi => by
    simp at hi
    obtain ⟨rfl, rfl⟩ := hi
    exact ⟨g, t, cs, fuel, p, h1, h2, h3, h4⟩
  | (m, e) :: r, _, ⟨g, t, cs, fuel, p, q, h1, h2, h3, h4, h5, _⟩, i + 1, n, d, hi => laidVars_at h5 (by simpa using hi)
theorem tabIs_at {P : Program} {W : World} {name : String} {k : IntKind} {zs : List Int} {g : Nat} {t e : TypeId} {n i : Nat} {l : List (String × DataW Unit)}
    (hg : P.globalNamed name = some g) (hty : (P.globals[g]?).map (·.type) = some t) (ht : P.underlying t = some (.array n e)) (he : P.underlying e = some (.int k)) (hce : P.cellsOf e = 1) (hct : P.cellsOf t = n)
    (hi : l[i]? = some (name, Lib.tabData k zs)) (h : laidMet P l W) : Lib.TabIs P W name k zs := by
  obtain ⟨ps, hv, _⟩ := h
  obtain ⟨g', t', cs, fuel, p, hg', ht', hvar, hd⟩ := laidVars_at hv hi
  obtain rfl := Option.some.inj (hg.symm.trans hg')
  obtain rfl := Option.some.inj (hty.symm.trans ht')
  unfold Lib.TabIs
  rw [hvar, ← Lib.cells_of_tab ht he hce hct hd]
end Go.Proofs.YtibcegbacnjmfaaGreatDoor
