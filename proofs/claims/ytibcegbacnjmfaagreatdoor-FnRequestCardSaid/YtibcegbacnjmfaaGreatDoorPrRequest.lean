/-
  The law FnRequest returns true for every input; it writes nothing that was there. Its statement is the tied card Rows.FnRequestCardSaid (after the worked law over a pinned table).
-/
import Derived.Test.YtibcegbacnjmfaaGreatDoorCards
import Derived.Test.YtibcegbacnjmfaaGreatDoorTie
import Derived.Test.YtibcegbacnjmfaaGreatDoorW106
import Derived.Test.YtibcegbacnjmfaaGreatDoorShell
import Derived.WalkKit
import Derived.ProofKit
import Derived.OpenShut
import Derived.ShutString
import Derived.LaidMore
import Derived.Lay
import Derived.SevenTiedAt
import Derived.Stop.Joined
import Derived.WideKeyArgs
namespace Go.Proofs.YtibcegbacnjmfaaGreatDoor.fnRequest
open Go.ChangeShapes Go.WideShapes Go.ChangeAt Go.RowKit
open Go.ChangeMaps (open_string shut_string)
set_option linter.unusedVariables false
set_option linter.unusedSimpArgs false

def tabZ : List Int := [0, 0, 0, 0, 0, 0, 0, 0, 0, 0, 0, 0, 0, 0, 0, 0, 0, 0, 0, 0, 0, 0, 0, 0, 0, 0, 0, 0, 0, 0, 0, 0, 0, 76, 12, 0, 95, 0, 95, 12, 76, 76, 76, 95, 93, 127, 127, 65, 255, 255, 255, 255, 255, 255, 255, 255, 255, 255, 79, 93, 12, 95, 12, 64, 67, 255, 255, 255, 255, 255, 255, 127, 127, 127, 127, 127, 127, 127, 127, 127, 127, 127, 127, 127, 127, 127, 127, 127, 127, 127, 127, 12, 0, 12, 0, 127, 0, 255, 255, 255, 255, 255, 255, 127, 127, 127, 127, 127, 127, 127, 127, 127, 127, 127, 127, 127, 127, 127, 127, 127, 127, 127, 127, 0, 0, 0, 127, 0, 0, 0, 0, 0, 0, 0, 0, 0, 0, 0, 0, 0, 0, 0, 0, 0, 0, 0, 0, 0, 0, 0, 0, 0, 0, 0, 0, 0, 0, 0, 0, 0, 0, 0, 0, 0, 0, 0, 0, 0, 0, 0, 0, 0, 0, 0, 0, 0, 0, 0, 0, 0, 0, 0, 0, 0, 0, 0, 0, 0, 0, 0, 0, 0, 0, 0, 0, 0, 0, 0, 0, 0, 0, 0, 0, 0, 0, 0, 0, 0, 0, 0, 0, 0, 0, 0, 0, 0, 0, 0, 0, 0, 0, 0, 0, 0, 0, 0, 0, 0, 0, 0, 0, 0, 0, 0, 0, 0, 0, 0, 0, 0, 0, 0, 0, 0, 0, 0, 0, 0, 0, 0, 0, 0, 0, 0, 0, 0]
theorem laidOut : laidOutB Tryz.prog = true := by kernel_rfl
theorem own : ownKnob Tryz.prog.godebug = none := by kernel_rfl
theorem gTab : Tryz.prog.globalNamed "signwriter/pub/neturl.table" = some 0 := by kernel_rfl
theorem gTabType : (Tryz.prog.globals[0]?).map (·.type) = some 107 := by kernel_rfl
theorem cellsA : Tryz.prog.cellsOf 107 = 256 := by kernel_rfl
theorem cellsE : Tryz.prog.cellsOf 78 = 1 := by kernel_rfl
theorem tabZ_at (c : UInt8) : c.toNat < tabZ.length ∧ tabZ.getD c.toNat 0 = ((NU.tab c).toNat : Int) := by
  have := NU.all_u8 (fun c => decide (c.toNat < tabZ.length ∧ tabZ.getD c.toNat 0 = ((NU.tab c).toNat : Int))) (by decide +kernel) c
  exact of_decide_eq_true this
theorem listed : Rows.fnRequestRow.laid[3]? = some ("signwriter/pub/neturl.table", Lib.tabData .u8 tabZ) := by kernel_rfl
theorem plainList (W : World) : laidMetH Tryz.prog Rows.fnRequestRow.laid W = laidMet Tryz.prog Rows.fnRequestRow.laid W := MakeChecks.laidMetH_plain _ _ _ (by kernel_rfl)

set_option maxRecDepth 100000 in
/-- What the row's list gives: the table's cells hold its numbers. -/
theorem table {W : World} (h : laidMetH Tryz.prog Rows.fnRequestRow.laid W) : Lib.TabIs Tryz.prog W "signwriter/pub/neturl.table" .u8 tabZ := by
  rw [plainList] at h
  exact tabIs_at gTab gTabType Tryz.underlying107 Tryz.underlying78 cellsE cellsA listed h
theorem tab_of {W : World} (h : laidMetH Tryz.prog Rows.fnRequestRow.laid W) : Tab W where
  lt := World.block_lt_of_cell? W ⟨0, 0, none⟩ ((table h).cell gTab 0 (show 0 < tabZ.length from (tabZ_at 0).1))
  cell := fun c => by
    have := (table h).cell gTab c.toNat (tabZ_at c).1
    rw [(tabZ_at c).2] at this
    exact this
  z := by
    rw [plainList] at h
    obtain ⟨a4, h4, h4', c4, t4, k4⟩ := handle_at (i := 1) (name := "net/netip.z4") (g := 3) (b := false) (by kernel_rfl) (by kernel_rfl) (by kernel_rfl) h
    obtain ⟨a6, h6, h6', c6, t6, k6⟩ := handle_at (i := 2) (name := "net/netip.z6noz") (g := 6) (b := true) (by kernel_rfl) (by kernel_rfl) (by kernel_rfl) h
    have h0 := handle_nil (i := 4) (name := "net/netip.z0") (g := 7) (by kernel_rfl) (by kernel_rfl) (by kernel_rfl) h
    exact ⟨a4, a6, c4, c6, t4, t6, h4, h6, h0, fun e => (by rw [e, h4'] at h6'; cases h6'), k4, k6⟩

set_option maxRecDepth 100000 in
theorem contract (H : Type) (enc : TypeId × Value → H) (W : World) (base : Nat) (args : Array Value) (ds gs : List (DataW H)) (before : List MemPlace)
    (hval : ∀ (j : Nat) t v, Tryz.f3.params[j]? = some t → args[j]? = some v → Value.okWide Tryz.prog W .any base t v)
    (hW : DataW.Whole enc Tryz.prog Tryz.f3.params.toList Rows.fnRequestSpec.vars false W args.toList ds gs before) (hL : laidMetH Tryz.prog Rows.fnRequestRow.laid W) :
    Calls Tryz.prog 3 args W fun e W' => ∃ v, e = .returned v ∧ Rows.fnRequestSpec.post enc Tryz.prog Tryz.f3 false true false false W args v W' := by
  have hW' := hW
  obtain ⟨p, q, hA0, hV, rfl, hfz, hnd⟩ := hW
  have hA : DataW.TrodAll enc Tryz.prog W 0 (fun _ => true) true Tryz.f3.params.toList args.toList ds p := hA0
  rw [Tryz.params3] at hA hval
  obtain ⟨v0, vs0, d0, ds0, p0, q0, hargs, rfl, rfl, h0, r0⟩ := trodAll_cons hA
  obtain ⟨rfl, rfl, rfl⟩ := trodAll_nil r0
  obtain rfl : args = #[v0] := by cases args; simp_all
  obtain ⟨rfl, rfl⟩ := trodVars_none hV
  obtain ⟨a0, rfl, rfl, rfl, w0⟩ := open_string Tryz.underlying9 (hval 0 9 v0 rfl rfl) h0
  clear hA0
  replace hW' : DataW.Whole enc Tryz.prog Tryz.f3.params.toList Rows.fnRequestSpec.vars false W _ _ _ (([] ++ []) ++ []) := hW'
  refine (FnRequest_any a0 W (tab_of hL)).mono fun e W' ⟨he, hg⟩ => ?_
  subst he
  exact ⟨_, rfl, post_of_below (pa := ([] ++ [])) (pv := []) hW' (fun _ _ _ => (trodAll_cons_mk (shut_bool Tryz.underlying4 _) trodAll_mk0)) (fun sp hsp => (trodAll_cons_mk (shut_string Tryz.underlying9 w0) trodAll_mk0)) (fun _ _ => rfl) rfl
    hg (ok_one (by kernel_rfl) rfl (okWide_bool_mk Tryz.underlying4 _))⟩

set_option maxRecDepth 100000 in
theorem lifted (os : Os) (started : os.Started) (H : Type) (enc : TypeId × Value → H) :
    ReturnsInHanded {} Tryz.checked os 3 .any (fun w args => (Rows.fnRequestSpec.pre enc Tryz.prog Tryz.f3 Rows.fnRequestRow.domain false w args ∧ laidMetH Tryz.prog Rows.fnRequestRow.laid w) ∧ sizedMet enc Tryz.prog Tryz.f3 (OpenSpec.ofChange Rows.fnRequestSpec) false w args)
      (Rows.fnRequestSpec.post enc Tryz.prog Tryz.f3 false true false false) := by
  refine returnsInHanded_of_change_and (C := Tryz.checked) (X := fun w _ => laidMetH Tryz.prog Rows.fnRequestRow.laid w) (fun _ _ _ hh h => h.of_heap hh) own started (by kernel_rfl) Tryz.func3
    (ChangeSpec.witness_shaped (enc := enc) (C := Tryz.checked) (os := os) (X := fun w _ => laidMetH Tryz.prog Rows.fnRequestRow.laid w) false (World.laidAll Tryz.prog os Rows.fnRequestRow.laid) #[Value.string ByteArray.empty] 8 (World.laidAll_os _ _ _)
      (World.shaped_of_ZipB (by kernel_rfl) (by kernel_rfl)) (by kernel_rfl) (by kernel_rfl) (by kernel_rfl)
      (by rw [plainList]; exact laidMet_laidAll _ (by kernel_rfl) (by kernel_rfl))) ?_
  intro W base args ds gs before hval hW _ _ hL _
  exact contract H enc W base args ds gs before hval hW hL

theorem said : Rows.FnRequestSaid :=
  OpenClaim.holds_of_wide 3 Tryz.f3 rfl rfl rfl rfl rfl rfl rfl ⟨rfl, rfl, rfl, rfl, rfl⟩ rfl rfl rfl rfl rfl (by kernel_rfl) Tryz.func3 (by kernel_rfl)
    (of_decide_eq_true (by kernel_rfl)) (by unfold Func.isWrapper; first | (rw [if_pos (by decide +kernel)]; kernel_rfl) | (rw [if_neg (by decide +kernel)]; exact ⟨rfl, rfl⟩))
    (fun os started H enc _ => lifted os started H enc)

theorem plain (f : FuncId) (fn : Func) (hf : Tryz.pinned.checked.prog.funcNamed "signwriter/laws.FnRequest" = some f) (hfn : Tryz.pinned.checked.prog.funcs[f]? = some fn) :
    false = Tryz.pinned.checked.prog.looks [] ∧ ∀ (j : Nat) t, fn.params[j]? = some t → Tryz.pinned.checked.prog.wantsStandIn t = false := by
  obtain rfl : f = 3 := Option.some.inj ((show Tryz.prog.funcNamed "signwriter/laws.FnRequest" = some 3 by kernel_rfl).symm.trans hf) |>.symm
  obtain rfl : fn = Tryz.f3 := (Option.some.inj (Tryz.func3.symm.trans hfn)).symm
  refine ⟨by kernel_rfl, fun j t ht => ?_⟩
  rw [Tryz.params3] at ht
  have hm : t ∈ [9] := by simpa [or_assoc] using Array.mem_of_getElem? ht
  have hall : ([9].all fun u => !Tryz.prog.wantsStandIn u) = true := by kernel_rfl
  exact (show Tryz.prog.wantsStandIn t = false by simpa using List.all_eq_true.1 hall t hm)

/-- The card. -/
theorem proved : Rows.FnRequestCardSaid :=
  Claim7.holds_tied_plain_at .later [] _ _ _ _ said (fun _ h => by cases h) (by kernel_rfl) (fun _ h => by cases h) fnRequest_row_tie rfl ⟨rfl, rfl⟩ (by kernel_rfl) rfl plain (by kernel_rfl)
#print axioms proved
end Go.Proofs.YtibcegbacnjmfaaGreatDoor.fnRequest
