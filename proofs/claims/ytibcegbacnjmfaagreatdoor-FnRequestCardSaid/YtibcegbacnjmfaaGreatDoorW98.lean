import Derived.Test.YtibcegbacnjmfaaGreatDoorW44
import Derived.Test.YtibcegbacnjmfaaGreatDoorW47
import Derived.Laws.StructEq
import Derived.ChangeKeysEq
import Derived.RegionTactic
import Derived.BigRegion
import Derived.ChangeAlike
namespace Go.Proofs.YtibcegbacnjmfaaGreatDoor
set_option linter.unusedVariables false
set_option linter.unusedSimpArgs false
open Go.RowKit

/-- Fields that hold the same are the same. -/
theorem eqFields_same {P : Program} (d : Nat) (xs : Array Value) (fs : List Field) (h : ∀ f ∈ fs, ∃ v, (∀ W, (part f.type xs f.offset).run P W = .ok v W) ∧ ∀ W, (Op.equalIn d f.type v v).run P W = .ok true W) (W : World) :
    (Op.eqFields d xs xs fs).run P W = .ok true W := by
  induction fs with
  | nil => simp [Op.eqFields]
  | cons f fs ih =>
    have ih := ih (fun g hg => h g (List.mem_cons_of_mem _ hg))
    obtain ⟨v, h1, h2⟩ := h f (List.mem_cons_self ..)
    simp only [Op.eqFields]
    split
    · simp only [Sem.run_bind, h1, h2, Result.andThen_ok, Sem.run_ite, Bool.not_true, Bool.false_eq_true, if_false, ih]
    · exact ih
theorem fields_iu : ((Tryz.prog.fieldsOf 28).toList.map (fun f => (f.type, f.offset))) = [(9, 0), (9, 1), (4, 2), (9, 3), (4, 4), (9, 5), (9, 6), (9, 7), (9, 8), (4, 9), (9, 10), (9, 11), (9, 12), (4, 13), (9, 14), (9, 15)] := by kernel_rfl
set_option maxRecDepth 100000 in
theorem eql_iu (u : IUrl) (W : World) : (binOp .eql 28 (.agg (iurlA u)) (.agg (iurlA u))).run Tryz.prog W = .ok (.bool true) W := by
  obtain ⟨sc, op, hu, un, hp, pw, hst, pa, rp, fq, rq, fr, rf, oh, ep, ef⟩ := u
  dsimp only [iurlA]
  have h1 : Tryz.prog.stoodInHeld 28 = false := by kernel_rfl
  have h2 : Tryz.prog.underlying 28 = some (.struct (Tryz.prog.fieldsOf 28)) := by kernel_rfl
  rw [run_eql_struct, run_equalIn_agg W 9999 28 _ _ h2 h1, eqFields_same]
  · rfl
  · intro f hf
    have hm := List.mem_map_of_mem (f := fun f : Field => (f.type, f.offset)) hf
    rw [fields_iu] at hm
    have S : ∀ (xs : Array Value) (k : Nat) (s : ByteArray), xs[k]? = some (.string s) → ∃ v, (∀ W, (part 9 xs k).run Tryz.prog W = .ok v W) ∧ ∀ W, (Op.equalIn 9999 9 v v).run Tryz.prog W = .ok true W :=
      fun xs k s hx => ⟨.string s, fun W => run_part_plain W (by kernel_rfl) hx, fun W => by rw [run_equalIn_string W 9998 9 s s (by kernel_rfl)]; simp⟩
    have B : ∀ (xs : Array Value) (k : Nat) (s : Bool), xs[k]? = some (.bool s) → ∃ v, (∀ W, (part 4 xs k).run Tryz.prog W = .ok v W) ∧ ∀ W, (Op.equalIn 9999 4 v v).run Tryz.prog W = .ok true W :=
      fun xs k s hx => ⟨.bool s, fun W => run_part_plain W (by kernel_rfl) hx, fun W => by rw [run_equalIn_bool W 9998 4 s s (by kernel_rfl)]; simp⟩
    simp only [List.mem_cons, Prod.mk.injEq, List.not_mem_nil, or_false] at hm
    rcases hm with ⟨e1, e2⟩ | ⟨e1, e2⟩ | ⟨e1, e2⟩ | ⟨e1, e2⟩ | ⟨e1, e2⟩ | ⟨e1, e2⟩ | ⟨e1, e2⟩ | ⟨e1, e2⟩ | ⟨e1, e2⟩ | ⟨e1, e2⟩ | ⟨e1, e2⟩ | ⟨e1, e2⟩ | ⟨e1, e2⟩ | ⟨e1, e2⟩ | ⟨e1, e2⟩ | ⟨e1, e2⟩
    all_goals
      rw [e1, e2]
      first
        | exact S _ _ _ rfl
        | exact B _ _ _ rfl
section
variable {ops : Array Oper} {rest : List Oper} {o : Oper} {a : Act} {w : World} {Q : Exit → Act → World → Prop}
/-- A URL is loaded whole, where the guard lets it. -/
theorem wpList_load_iu_g (hw : Region.wanted o (yielded ops a.tmps) = true) (x : Operand) (ho : o.op = .load 28 x) (g : Nat) (hx : a.eval x = .pointer (some ⟨g, 0, none⟩)) (t : TypeId) (cs : Array Value) (hb : Hid (Blk w g t cs)) (hs : cs.size = 16)
    (h : wpList Tryz.prog ops Q rest (a.put o.dst (.agg cs)) w) : wpList Tryz.prog ops Q (o :: rest) a w :=
  wpList_step fun K hK => by rw [if_pos hw]; exact wp_load_row _ x ho g hx t cs (0, 0) _ hb.out Tryz.underlying28 rfl (by rw [iu_info, hs]) (hK _ _ h)
end
end Go.Proofs.YtibcegbacnjmfaaGreatDoor
