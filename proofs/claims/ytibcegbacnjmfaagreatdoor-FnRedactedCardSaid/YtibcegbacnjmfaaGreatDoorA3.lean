import Derived.Test.YtibcegbacnjmfaaGreatDoorA2
import Derived.Test.YtibcegbacnjmfaaGreatDoorW21
import Derived.SliceStrings
namespace Go.Proofs.YtibcegbacnjmfaaGreatDoor
set_option linter.unusedVariables false
set_option linter.unusedSimpArgs false
open Go.ChangeShapes
theorem hty_cells : Tryz.prog.cellsOf 119 = 1 := by kernel_rfl
theorem hptr_cells : Tryz.prog.cellsOf 117 = 1 := by kernel_rfl
theorem hdet_cells : Tryz.prog.cellsOf 156 = 2 := by kernel_rfl
theorem hbool_cells : Tryz.prog.cellsOf 4 = 1 := by kernel_rfl
set_option maxRecDepth 100000 in
theorem handle_nil {W : World} {l : List (String × DataW Unit)} {i : Nat} {name : String} {g : Nat} (hg : Tryz.prog.globalNamed name = some g) (hty : (Tryz.prog.globals[g]?).map (·.type) = some 119)
    (hi : l[i]? = some (name, .agg [.nil])) (h : laidMet Tryz.prog l W) : W.cell? ⟨g, 0, none⟩ = some (.pointer none) := by
  obtain ⟨ps, hv, _⟩ := h
  obtain ⟨g', t', cs, fuel, p, hg', ht', hvar, hd⟩ := laidVars_at hv hi
  obtain rfl := Option.some.inj (hg.symm.trans hg')
  obtain rfl := Option.some.inj (hty.symm.trans ht')
  obtain ⟨xs, m, rfl, hx, hl, hxl, hf⟩ := DataW.trod_struct Tryz.underlying119 hd
  rw [hty_cells] at hl
  obtain ⟨c0, hc0⟩ : ∃ c0, cs.toList = [c0] := by
    match cs.toList, hl with
    | [a], _ => exact ⟨a, rfl⟩
  have h0 := hf 0 _ rfl
  change DataW.trod (fun _ => ()) Tryz.prog W 0 (fun _ => true) false m 117 ((cs.toList.drop 0).take (Tryz.prog.cellsOf 117)) = xs[0]? at h0
  rw [hptr_cells, hc0] at h0
  have hxs : xs.map (·.1) = [.nil] := by
    have := congrArg Prod.fst hx
    simpa using this.symm
  obtain ⟨y, rfl⟩ : ∃ y, xs = [y] := by
    match xs, hxs with
    | [y], _ => exact ⟨y, rfl⟩
  have hy : y.1 = .nil := by simpa using hxs
  rcases DataW.trod_pointer Tryz.underlying117 h0 with ⟨he, _⟩ | ⟨a, cs', y', n, _, he, hy', _⟩
  · have : c0 = .pointer none := by simpa using he
    rw [World.var?_cell hg hvar 0, ← Array.getElem?_toList, hc0, this]; rfl
  · rw [hy'] at hy; cases hy
set_option maxRecDepth 100000 in
theorem handle_at {W : World} {l : List (String × DataW Unit)} {i : Nat} {name : String} {g : Nat} {b : Bool} (hg : Tryz.prog.globalNamed name = some g) (hty : (Tryz.prog.globals[g]?).map (·.type) = some 119)
    (hi : l[i]? = some (name, .agg [.ptr (.agg [.lit (.bool b), .lit (.string [])])])) (h : laidMet Tryz.prog l W) : ∃ a, W.cell? ⟨g, 0, none⟩ = some (.pointer (some a)) ∧ W.cell? a = some (.bool b) := by
  obtain ⟨ps, hv, _⟩ := h
  obtain ⟨g', t', cs, fuel, p, hg', ht', hvar, hd⟩ := laidVars_at hv hi
  obtain rfl := Option.some.inj (hg.symm.trans hg')
  obtain rfl := Option.some.inj (hty.symm.trans ht')
  obtain ⟨xs, m, rfl, hx, hl, hxl, hf⟩ := DataW.trod_struct Tryz.underlying119 hd
  rw [hty_cells] at hl
  obtain ⟨c0, hc0⟩ : ∃ c0, cs.toList = [c0] := by
    match cs.toList, hl with
    | [a], _ => exact ⟨a, rfl⟩
  have h0 := hf 0 _ rfl
  change DataW.trod (fun _ => ()) Tryz.prog W 0 (fun _ => true) false m 117 ((cs.toList.drop 0).take (Tryz.prog.cellsOf 117)) = xs[0]? at h0
  rw [hptr_cells, hc0] at h0
  have hxs : xs.map (·.1) = [.ptr (.agg [.lit (.bool b), .lit (.string [])])] := by
    have := congrArg Prod.fst hx
    simpa using this.symm
  obtain ⟨y, rfl⟩ : ∃ y, xs = [y] := by
    match xs, hxs with
    | [y], _ => exact ⟨y, rfl⟩
  have hy : y.1 = .ptr (.agg [.lit (.bool b), .lit (.string [])]) := by simpa using hxs
  rcases DataW.trod_pointer Tryz.underlying117 h0 with ⟨_, hy'⟩ | ⟨a, cs', y', n, _, he, hy', hcs, htr⟩
  · rw [hy'] at hy; cases hy
  · have hc : c0 = .pointer (some a) := by simpa using he
    refine ⟨a, by rw [World.var?_cell hg hvar 0, ← Array.getElem?_toList, hc0, hc]; rfl, ?_⟩
    rw [hdet_cells] at hcs
    obtain ⟨_, hcl, hce⟩ := World.cells?_some hcs
    obtain ⟨xs2, m2, _, hx2, _, hxl2, hf2⟩ := DataW.trod_struct Tryz.underlying156 htr
    have hyy : y'.1 = .agg [.lit (.bool b), .lit (.string [])] := by rw [hy'] at hy; simpa using hy
    have hxs2 : xs2.map (·.1) = [.lit (.bool b), .lit (.string [])] := by
      rw [hx2] at hyy; simpa using hyy
    obtain ⟨u, v, rfl⟩ : ∃ u v, xs2 = [u, v] := by
      match xs2, hxs2 with
      | [u, v], _ => exact ⟨u, v, rfl⟩
    have hu : u.1 = .lit (.bool b) := by
      have := congrArg List.head? hxs2
      simpa using this
    have h2 := hf2 0 _ rfl
    change DataW.trod (fun _ => ()) Tryz.prog W 0 (fun _ => true) false m2 4 ((cs'.drop 0).take (Tryz.prog.cellsOf 4)) = [u, v][0]? at h2
    rw [hbool_cells] at h2
    obtain ⟨b', he', hb'⟩ := DataW.trod_bool Tryz.underlying4 h2
    obtain ⟨d0, d1, hd⟩ : ∃ d0 d1, cs' = [d0, d1] := by
      match cs', hcl with
      | [d0, d1], _ => exact ⟨d0, d1, rfl⟩
    subst hd
    have e1 : d0 = .bool b' := by simpa using he'
    have e2 : b' = b := by
      rw [hb'] at hu
      simpa using hu
    have := hce 0 (by omega)
    rw [show a.add 0 = a by simp [Addr.add]] at this
    rw [this, e1, e2]; rfl
end Go.Proofs.YtibcegbacnjmfaaGreatDoor
