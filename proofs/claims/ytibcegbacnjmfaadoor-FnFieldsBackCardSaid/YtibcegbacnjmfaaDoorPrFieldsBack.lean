/-
  The law FnFieldsBack returns true for every input; it writes nothing that was there. Its statement is the tied card Rows.FnFieldsBackCardSaid (after the worked law over a pinned table).
-/
import Derived.Test.YtibcegbacnjmfaaDoorCards
import Derived.Test.YtibcegbacnjmfaaDoorTie
import Derived.Test.YtibcegbacnjmfaaDoorW100
import Derived.Test.YtibcegbacnjmfaaDoorShell
import Derived.WalkKit
import Derived.ProofKit
import Derived.OpenShut
import Derived.ShutString
import Derived.LaidMore
import Derived.Lay
import Derived.SevenTiedAt
import Derived.Stop.Joined
import Derived.WideKeyArgs
namespace Go.Proofs.YtibcegbacnjmfaaDoor.fnFieldsBack
open Go.ChangeShapes Go.WideShapes Go.ChangeAt Go.RowKit
open Go.ChangeMaps (open_string shut_string)
set_option linter.unusedVariables false
set_option linter.unusedSimpArgs false

def tabZ : List Int := [0, 0, 0, 0, 0, 0, 0, 0, 0, 0, 0, 0, 0, 0, 0, 0, 0, 0, 0, 0, 0, 0, 0, 0, 0, 0, 0, 0, 0, 0, 0, 0, 0, 76, 12, 0, 95, 0, 95, 12, 76, 76, 76, 95, 93, 127, 127, 65, 255, 255, 255, 255, 255, 255, 255, 255, 255, 255, 79, 93, 12, 95, 12, 64, 67, 255, 255, 255, 255, 255, 255, 127, 127, 127, 127, 127, 127, 127, 127, 127, 127, 127, 127, 127, 127, 127, 127, 127, 127, 127, 127, 12, 0, 12, 0, 127, 0, 255, 255, 255, 255, 255, 255, 127, 127, 127, 127, 127, 127, 127, 127, 127, 127, 127, 127, 127, 127, 127, 127, 127, 127, 127, 127, 0, 0, 0, 127, 0, 0, 0, 0, 0, 0, 0, 0, 0, 0, 0, 0, 0, 0, 0, 0, 0, 0, 0, 0, 0, 0, 0, 0, 0, 0, 0, 0, 0, 0, 0, 0, 0, 0, 0, 0, 0, 0, 0, 0, 0, 0, 0, 0, 0, 0, 0, 0, 0, 0, 0, 0, 0, 0, 0, 0, 0, 0, 0, 0, 0, 0, 0, 0, 0, 0, 0, 0, 0, 0, 0, 0, 0, 0, 0, 0, 0, 0, 0, 0, 0, 0, 0, 0, 0, 0, 0, 0, 0, 0, 0, 0, 0, 0, 0, 0, 0, 0, 0, 0, 0, 0, 0, 0, 0, 0, 0, 0, 0, 0, 0, 0, 0, 0, 0, 0, 0, 0, 0, 0, 0, 0, 0, 0, 0, 0, 0, 0, 0]
theorem laidOut : laidOutB Tryd.prog = true := by kernel_rfl
theorem own : ownKnob Tryd.prog.godebug = none := by kernel_rfl
theorem gTab : Tryd.prog.globalNamed "signwriter/pub/neturl.table" = some 0 := by kernel_rfl
theorem gTabType : (Tryd.prog.globals[0]?).map (·.type) = some 104 := by kernel_rfl
theorem cellsA : Tryd.prog.cellsOf 104 = 256 := by kernel_rfl
theorem cellsE : Tryd.prog.cellsOf 77 = 1 := by kernel_rfl
theorem tabZ_at (c : UInt8) : c.toNat < tabZ.length ∧ tabZ.getD c.toNat 0 = ((NU.tab c).toNat : Int) := by
  have := NU.all_u8 (fun c => decide (c.toNat < tabZ.length ∧ tabZ.getD c.toNat 0 = ((NU.tab c).toNat : Int))) (by decide +kernel) c
  exact of_decide_eq_true this
theorem listed : Rows.fnFieldsBackRow.laid[3]? = some ("signwriter/pub/neturl.table", Lib.tabData .u8 tabZ) := by kernel_rfl
theorem plainList (W : World) : laidMetH Tryd.prog Rows.fnFieldsBackRow.laid W = laidMet Tryd.prog Rows.fnFieldsBackRow.laid W := MakeChecks.laidMetH_plain _ _ _ (by kernel_rfl)

set_option maxRecDepth 100000 in
/-- What the row's list gives: the table's cells hold its numbers. -/
theorem table {W : World} (h : laidMetH Tryd.prog Rows.fnFieldsBackRow.laid W) : Lib.TabIs Tryd.prog W "signwriter/pub/neturl.table" .u8 tabZ := by
  rw [plainList] at h
  exact tabIs_at gTab gTabType Tryd.underlying104 Tryd.underlying77 cellsE cellsA listed h
theorem tab_of {W : World} (h : laidMetH Tryd.prog Rows.fnFieldsBackRow.laid W) : Tab W where
  lt := World.block_lt_of_cell? W ⟨0, 0, none⟩ ((table h).cell gTab 0 (show 0 < tabZ.length from (tabZ_at 0).1))
  cell := fun c => by
    have := (table h).cell gTab c.toNat (tabZ_at c).1
    rw [(tabZ_at c).2] at this
    exact this
  z := by
    rw [plainList] at h
    obtain ⟨a4, h4, h4', c4, t4, k4⟩ := handle_at (i := 1) (name := "net/netip.z4") (g := 3) (b := false) (by kernel_rfl) (by kernel_rfl) (by kernel_rfl) h
    obtain ⟨a6, h6, h6', c6, t6, k6⟩ := handle_at (i := 2) (name := "net/netip.z6noz") (g := 6) (b := true) (by kernel_rfl) (by kernel_rfl) (by kernel_rfl) h
    have h0 := handle_nil (i := 4) (name := "net/netip.z0") (g := 7) (by kernel_rfl) (by kernel_rfl) (by kernel_rfl) h
    exact ⟨a4, a6, c4, c6, t4, t6, h4, h6, h0, fun e => (by rw [e, h4'] at h6'; cases h6'), k4, k6⟩

set_option maxRecDepth 100000 in
theorem contract (H : Type) (enc : TypeId × Value → H) (W : World) (base : Nat) (args : Array Value) (ds gs : List (DataW H)) (before : List MemPlace)
    (hval : ∀ (j : Nat) t v, Tryd.f5.params[j]? = some t → args[j]? = some v → Value.okWide Tryd.prog W .any base t v)
    (hW : DataW.Whole enc Tryd.prog Tryd.f5.params.toList Rows.fnFieldsBackSpec.vars false W args.toList ds gs before) (hL : laidMetH Tryd.prog Rows.fnFieldsBackRow.laid W) :
    Calls Tryd.prog 5 args W fun e W' => ∃ v, e = .returned v ∧ Rows.fnFieldsBackSpec.post enc Tryd.prog Tryd.f5 false true false false W args v W' := by
  have hW' := hW
  obtain ⟨p, q, hA0, hV, rfl, hfz, hnd⟩ := hW
  have hA : DataW.TrodAll enc Tryd.prog W 0 (fun _ => true) true Tryd.f5.params.toList args.toList ds p := hA0
  rw [Tryd.params5] at hA hval
  obtain ⟨v0, vs0, d0, ds0, p0, q0, hargs, rfl, rfl, h0, r0⟩ := trodAll_cons hA
  obtain ⟨v1, vs1, d1, ds1, p1, q1, rfl, rfl, rfl, h1, r1⟩ := trodAll_cons r0
  obtain ⟨v2, vs2, d2, ds2, p2, q2, rfl, rfl, rfl, h2, r2⟩ := trodAll_cons r1
  obtain ⟨rfl, rfl, rfl⟩ := trodAll_nil r2
  obtain rfl : args = #[v0, v1, v2] := by cases args; simp_all
  obtain ⟨rfl, rfl⟩ := trodVars_none hV
  obtain ⟨a0, rfl, rfl, rfl, w0⟩ := open_int Tryd.underlying3 (hval 0 3 v0 rfl rfl) h0
  obtain ⟨a1, rfl, rfl, rfl, w1⟩ := open_int Tryd.underlying3 (hval 1 3 v1 rfl rfl) h1
  have h2k := h2
  obtain ⟨a2, rfl⟩ := open_iu (hval 2 26 v2 rfl rfl) h2
  clear hA0
  replace hW' : DataW.Whole enc Tryd.prog Tryd.f5.params.toList Rows.fnFieldsBackSpec.vars false W _ _ _ (([] ++ ([] ++ (p2 ++ []))) ++ []) := hW'
  have hlt2 : ∀ x ∈ p2, x.block < W.heap.size := fun x hx => hW'.lt x (by simpa using hx)
  have hst2 : ∀ W', Below W.heap.size W W' → ∀ sp : Nat → Bool, (∀ p ∈ ([] ++ ([] ++ (p2 ++ []))) ++ [], sp p.block = true) → DataW.Trod enc Tryd.prog W' 0 sp true 26 (.agg (iurlA a2)) d2 p2 :=
    fun W' hb sp hsp => WideElems.Trod_stays laidOut (by kernel_rfl) (of_decide_eq_true (by kernel_rfl)) h2k (fun x hx => hb.same (hlt2 x hx)) (fun x hx => hsp x (by simpa using hx))
  refine (FnFieldsBack_any a0 a1 a2 W (tab_of hL)).mono fun e W' ⟨he, hg⟩ => ?_
  subst he
  exact ⟨_, rfl, post_of_below (pa := ([] ++ ([] ++ (p2 ++ [])))) (pv := []) hW' (fun _ _ _ => (trodAll_cons_mk (shut_bool Tryd.underlying4 _) trodAll_mk0)) (fun sp hsp => (trodAll_cons_mk (shut_int Tryd.underlying3 w0) (trodAll_cons_mk (shut_int Tryd.underlying3 w1) (trodAll_cons_mk (hst2 _ hg sp hsp) trodAll_mk0)))) (fun _ _ => rfl) rfl
    hg (ok_one (by kernel_rfl) rfl (okWide_bool_mk Tryd.underlying4 _))⟩

set_option maxRecDepth 100000 in
theorem lifted (os : Os) (started : os.Started) (H : Type) (enc : TypeId × Value → H) :
    ReturnsInHanded {} Tryd.checked os 5 .any (fun w args => (Rows.fnFieldsBackSpec.pre enc Tryd.prog Tryd.f5 Rows.fnFieldsBackRow.domain false w args ∧ laidMetH Tryd.prog Rows.fnFieldsBackRow.laid w) ∧ sizedMet enc Tryd.prog Tryd.f5 (OpenSpec.ofChange Rows.fnFieldsBackSpec) false w args)
      (Rows.fnFieldsBackSpec.post enc Tryd.prog Tryd.f5 false true false false) := by
  refine returnsInHanded_of_change_and (C := Tryd.checked) (X := fun w _ => laidMetH Tryd.prog Rows.fnFieldsBackRow.laid w) (fun _ _ _ hh h => h.of_heap hh) own started (by kernel_rfl) Tryd.func5
    (ChangeSpec.witness_shaped (enc := enc) (C := Tryd.checked) (os := os) (X := fun w _ => laidMetH Tryd.prog Rows.fnFieldsBackRow.laid w) false (World.laidAll Tryd.prog os Rows.fnFieldsBackRow.laid) #[Value.int .i64 0, Value.int .i64 0, Value.agg #[Value.string ByteArray.empty, Value.string ByteArray.empty, Value.bool false, Value.string ByteArray.empty, Value.bool false, Value.string ByteArray.empty, Value.string ByteArray.empty, Value.string ByteArray.empty, Value.string ByteArray.empty, Value.bool false, Value.string ByteArray.empty, Value.string ByteArray.empty, Value.string ByteArray.empty, Value.bool false, Value.string ByteArray.empty, Value.string ByteArray.empty]] 8 (World.laidAll_os _ _ _)
      (World.shaped_of_ZipB (by kernel_rfl) (by kernel_rfl)) (by kernel_rfl) (by kernel_rfl) (by kernel_rfl)
      (by rw [plainList]; exact laidMet_laidAll _ (by kernel_rfl) (by kernel_rfl))) ?_
  intro W base args ds gs before hval hW _ _ hL _
  exact contract H enc W base args ds gs before hval hW hL

theorem said : Rows.FnFieldsBackSaid :=
  OpenClaim.holds_of_wide 5 Tryd.f5 rfl rfl rfl rfl rfl rfl rfl ⟨rfl, rfl, rfl, rfl, rfl⟩ rfl rfl rfl rfl rfl (by kernel_rfl) Tryd.func5 (by kernel_rfl)
    (of_decide_eq_true (by kernel_rfl)) (by unfold Func.isWrapper; first | (rw [if_pos (by decide +kernel)]; kernel_rfl) | (rw [if_neg (by decide +kernel)]; exact ⟨rfl, rfl⟩))
    (fun os started H enc _ => lifted os started H enc)

theorem plain (f : FuncId) (fn : Func) (hf : Tryd.pinned.checked.prog.funcNamed "signwriter/laws.FnFieldsBack" = some f) (hfn : Tryd.pinned.checked.prog.funcs[f]? = some fn) :
    false = Tryd.pinned.checked.prog.looks [] ∧ ∀ (j : Nat) t, fn.params[j]? = some t → Tryd.pinned.checked.prog.wantsStandIn t = false := by
  obtain rfl : f = 5 := Option.some.inj ((show Tryd.prog.funcNamed "signwriter/laws.FnFieldsBack" = some 5 by kernel_rfl).symm.trans hf) |>.symm
  obtain rfl : fn = Tryd.f5 := (Option.some.inj (Tryd.func5.symm.trans hfn)).symm
  refine ⟨by kernel_rfl, fun j t ht => ?_⟩
  rw [Tryd.params5] at ht
  have hm : t ∈ [3, 26] := by simpa [or_assoc] using Array.mem_of_getElem? ht
  have hall : ([3, 26].all fun u => !Tryd.prog.wantsStandIn u) = true := by kernel_rfl
  exact (show Tryd.prog.wantsStandIn t = false by simpa using List.all_eq_true.1 hall t hm)

/-- The card. -/
theorem proved : Rows.FnFieldsBackCardSaid :=
  Claim7.holds_tied_plain_at .later [] _ _ _ _ said (fun _ h => by cases h) (by kernel_rfl) (fun _ h => by cases h) fnFieldsBack_row_tie rfl ⟨rfl, rfl⟩ (by kernel_rfl) rfl plain (by kernel_rfl)
#print axioms proved
end Go.Proofs.YtibcegbacnjmfaaDoor.fnFieldsBack
