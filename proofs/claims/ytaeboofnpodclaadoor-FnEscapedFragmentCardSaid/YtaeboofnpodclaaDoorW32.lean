import Derived.Test.YtaeboofnpodclaaDoorW31
import Derived.Test.YtaeboofnpodclaaDoorW26
import Derived.Test.YtaeboofnpodclaaDoorW23
import Derived.Test.YtaeboofnpodclaaDoorW17
namespace Go.Proofs.YtaeboofnpodclaaDoor
set_option linter.unusedVariables false
set_option linter.unusedSimpArgs false
open Go.RowKit

theorem UrlIs.cells {w : World} {g : Nat} {U : UrlR} (h : UrlIs w g U) :
    w.cell? ⟨g, 0, none⟩ = some (.string U.scheme) ∧ w.cell? ⟨g, 1, none⟩ = some (.string U.opq) ∧ w.cell? ⟨g, 3, none⟩ = some (.string U.host) ∧ w.cell? ⟨g, 4, none⟩ = some (.string U.path) ∧
    w.cell? ⟨g, 5, none⟩ = some (.string U.fragment) ∧ w.cell? ⟨g, 6, none⟩ = some (.string U.rawQuery) ∧ w.cell? ⟨g, 7, none⟩ = some (.string U.rawPath) ∧ w.cell? ⟨g, 8, none⟩ = some (.string U.rawFragment) ∧
    w.cell? ⟨g, 9, none⟩ = some (.bool U.forceQuery) ∧ w.cell? ⟨g, 10, none⟩ = some (.bool U.omitHost) := by
  obtain ⟨v, _, h⟩ := h
  exact ⟨h.cell 0, h.cell 1, h.cell 3, h.cell 4, h.cell 5, h.cell 6, h.cell 7, h.cell 8, h.cell 9, h.cell 10⟩
theorem ne_strs (a b : ByteArray) (h : ¬ L a = L b) : (a.toList == b.toList) = false := by rw [Lib.toList_data, Lib.toList_data]; simpa using h
theorem eq_strs (a b : ByteArray) (h : L a = L b) : (a.toList == b.toList) = true := by rw [Lib.toList_data, Lib.toList_data]; simpa using h

end Go.Proofs.YtaeboofnpodclaaDoor
