import Derived.Test.YtlholchmgheemaaDoorW70
import Derived.SliceStrings
namespace Go.Proofs.YtlholchmgheemaaDoor
set_option linter.unusedVariables false
set_option linter.unusedSimpArgs false
open Go.RowKit Go.Maps Go.ChangeShapes

theorem addr_add (b o j : Nat) : (⟨b, o, none⟩ : Addr).add j = ⟨b, o + j, none⟩ := by unfold Addr.add; split <;> simp_all
section
variable {H : Type} {enc : TypeId × Value → H} {W : World} {base : Nat} {sp : Nat → Bool} {held : Bool}
theorem inS_of_trod {n : Nat} {u : Value} {x : DataW H × List MemPlace} (h : DataW.trod enc Tryd.prog W base sp held n 38 [u] = some x) : ∃ ss, InS W u ss := by
  rcases open_strings Tryd.underlying38 Tryd.underlying9 (by kernel_rfl) h with ⟨hcs, hx⟩ | ⟨a, len, cap, ss, hcs, _, hl, hm, hz, hx, hcell, hsz⟩
  · have : u = .slice none 0 0 := by simpa using hcs
    subst this
    exact ⟨[], none, 0, rfl, .inl rfl⟩
  · have : u = .slice (some a) len cap := by simpa using hcs
    subst this
    have hle : len ≤ ss.length := by rw [hz]; split <;> omega
    refine ⟨ss.take len, some a, cap, by rw [List.length_take, Nat.min_eq_left hle], ?_⟩
    by_cases h0 : len = 0
    · left; rw [h0]; rfl
    · right
      have hs : a.spot = none := by
        have := World.cell?_spot (hcell 0 (by omega))
        simpa [Addr.add] using this
      refine ⟨a.block, a.off, by cases a; simp at hs; subst hs; rfl, fun j hj => ?_⟩
      have hj' : j < ss.length := by rw [List.length_take] at hj; omega
      have := hcell j hj'
      rw [List.getElem_take]
      cases a; simp at hs; subst hs
      rw [addr_add] at this
      simpa [hj'] using this
set_option maxRecDepth 100000 in
theorem pair_of_trod {n : Nat} {cs : List Value} {x : DataW H × List MemPlace} (hl : cs.length = 2) (h : DataW.trod enc Tryd.prog W base sp held n 40 cs = some x) : ∃ K u ss, cs = [.string K, u] ∧ InS W u ss := by
  obtain ⟨xs, m, rfl, _, _, hxl, hf⟩ := DataW.trod_struct Tryd.underlying40 h
  obtain ⟨c0, c1, rfl⟩ : ∃ c0 c1, cs = [c0, c1] := by
    match cs, hl with
    | [a, b], _ => exact ⟨a, b, rfl⟩
  have hxl' : xs.length = 2 := by simpa using hxl
  have h0 := hf 0 _ rfl
  have h1 := hf 1 _ rfl
  change DataW.trod enc Tryd.prog W base sp held m 9 (([c0, c1].drop 0).take (Tryd.prog.cellsOf 9)) = xs[0]? at h0
  change DataW.trod enc Tryd.prog W base sp held m 38 (([c0, c1].drop 1).take (Tryd.prog.cellsOf 38)) = xs[1]? at h1
  have e0 : xs[0]? = some (xs[0]'(by omega)) := List.getElem?_eq_getElem (by omega)
  have e1 : xs[1]? = some (xs[1]'(by omega)) := List.getElem?_eq_getElem (by omega)
  rw [e0] at h0
  rw [e1] at h1
  rw [show Tryd.prog.cellsOf 9 = 1 by kernel_rfl] at h0
  rw [show Tryd.prog.cellsOf 38 = 1 by kernel_rfl] at h1
  obtain ⟨s, hs, _⟩ := DataW.trod_string Tryd.underlying9 h0
  obtain ⟨ss, hss⟩ := inS_of_trod h1
  have : c0 = .string s := by simpa using hs
  exact ⟨s, c1, ss, by rw [this], hss⟩
set_option maxRecDepth 100000 in
theorem inP_of_trod {n : Nat} {v : Value} {x : DataW H × List MemPlace} (h : DataW.trod enc Tryd.prog W base sp held n 24 [v] = some x) : ∃ l : IL, InP W v l := by
  rcases DataW.trod_slice Tryd.underlying24 h with ⟨hcs, _⟩ | ⟨a, len, cap, elems, rest, m, _, hcs, _, _, hl, hm, hlen, hel, _, _⟩
  · have : v = .slice none 0 0 := by simpa using hcs
    subst this
    exact ⟨[], none, 0, rfl, Nat.le_refl _, Nat.zero_le _, .inl rfl⟩
  · have : v = .slice (some a) len cap := by simpa using hcs
    subst this
    have key : ∀ i : Nat, ∃ p : ByteArray × List ByteArray, i < len → W.cell? (a.add (i * 2)) = some (.string p.1) ∧ ∃ u, W.cell? ((a.add (i * 2)).add 1) = some u ∧ InS W u p.2 := by
      intro i
      by_cases hi : i < len
      · have h1 := hel i hi
        rw [show Tryd.prog.cellsOf 40 = 2 by kernel_rfl, List.getElem?_eq_getElem (by omega), Option.bind_eq_some_iff] at h1
        obtain ⟨cs, hcs, htr⟩ := h1
        obtain ⟨_, hcl, hce⟩ := World.cells?_some hcs
        obtain ⟨K, u, ss, rfl, hs⟩ := pair_of_trod hcl htr
        refine ⟨(K, ss), fun _ => ⟨?_, u, hce 1 (by omega), hs⟩⟩
        have := hce 0 (by omega)
        rw [show (a.add (i * 2)).add 0 = a.add (i * 2) by simp [Addr.add]] at this
        exact this
      · exact ⟨(⟨#[]⟩, []), fun h => absurd h hi⟩
    obtain ⟨f, hf⟩ := Classical.axiomOfChoice key
    refine ⟨(List.range len).map f, some a, cap, by simp, by simpa using hl, hm, ?_⟩
    by_cases h0 : len = 0
    · left; rw [h0]; rfl
    · right
      have hs : a.spot = none := by
        have := World.cell?_spot (hf 0 (by omega)).1
        simpa [Addr.add] using this
      obtain ⟨b, o, rfl⟩ : ∃ b o, a = ⟨b, o, none⟩ := ⟨a.block, a.off, by cases a; simp at hs; subst hs; rfl⟩
      refine ⟨b, o, rfl, fun i hi => ?_⟩
      have hi' : i < len := by simpa using hi
      have := hf i hi'
      rw [addr_add, addr_add] at this
      simpa using this
end
end Go.Proofs.YtlholchmgheemaaDoor
