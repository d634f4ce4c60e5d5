import Derived.Test.YtibcegbacnjmfaaDoorW8
import Derived.Test.YtibcegbacnjmfaaDoorP4
import Derived.Deep.DeepCutAuto
import Derived.BigRegion
namespace Go.Proofs.YtibcegbacnjmfaaDoor
set_option linter.unusedVariables false
set_option linter.unusedSimpArgs false
open Go.RowKit

abbrev refA (hs : Bool) (sc : ByteArray) (ha : Bool) (au pa : ByteArray) (hq : Bool) (qu : ByteArray) (hf : Bool) (fr : ByteArray) : Array Value :=
  #[.bool hs, .string sc, .bool ha, .string au, .string pa, .bool hq, .string qu, .bool hf, .string fr]
abbrev refO (hs : Bool) (sc : ByteArray) (ha : Bool) (au pa : ByteArray) (hq : Bool) (qu : ByteArray) (hf : Bool) (fr : ByteArray) : Obj :=
  .cells (refA hs sc ha au pa hq qu hf fr) 32
/-- A reference's parts as a value. -/
abbrev refV (l : List UInt8) : Value := .agg (refA (NU.spS l) (mk (NU.spScheme l)) (NU.spA l) (mk (NU.spAuth l)) (mk (NU.spPath l)) (NU.spQ l) (mk (NU.spQuery l)) (NU.spF l) (mk (NU.spFrag l)))
abbrev sp0 (w : World) : World := w.alloc (refO false ⟨#[]⟩ false ⟨#[]⟩ ⟨#[]⟩ false ⟨#[]⟩ false ⟨#[]⟩)

theorem setCell_drewN (w : World) (n : Nat) (a : Addr) (v : Value) : (w.drewN n).setCell a v = (w.setCell a v).drewN n := rfl
theorem set_own (w : World) (o : Obj) (c : Array Value) (t : TypeId) (n b i : Nat) (v : Value) (hb : b = (w.alloc o).heap.size) :
    (((w.alloc o).alloc (.cells c t)).drewN n).setCell ⟨b, i, none⟩ v = ((w.alloc o).alloc (.cells (c.setIfInBounds i v) t)).drewN n := by
  rw [setCell_drewN, World.setCell_alloc_at _ _ _ _ _ hb]
theorem set_two {w : World} {o : Obj} {c c' : Array Value} {t : TypeId} {n b i j : Nat} {v u : Value} (hb : b = (w.alloc o).heap.size) (hc : (c.setIfInBounds i v).setIfInBounds j u = c') :
    ∃ m, ((((w.alloc o).alloc (.cells c t)).drewN n).setCell ⟨b, i, none⟩ v).setCell ⟨b, j, none⟩ u = ((w.alloc o).alloc (.cells c' t)).drewN m :=
  ⟨n, by rw [set_own _ _ _ _ _ _ _ _ hb, set_own _ _ _ _ _ _ _ _ hb, hc]⟩
theorem and_ex {p : Prop} {q : Nat → Prop} (h : p) (h' : ∃ n, q n) : ∃ n, p ∧ q n := by obtain ⟨n, hn⟩ := h'; exact ⟨n, h, hn⟩

set_option maxHeartbeats 2000000 in
theorem Split_any (s : ByteArray) (w : World) (hs : s.size ≤ 1099511627776) :
    Calls Tryd.prog 11 #[.string s] w fun e w' => e = .returned (refV (L s)) ∧ Fr w w' := by
  obtain ⟨i, hi⟩ : ∃ i, i = NU.spI (L s) := ⟨_, rfl⟩
  have hile : i ≤ s.size := by rw [hi, ← L_length]; exact NU.index_le _ _
  have cI : ∀ W, Calls Tryd.prog 21 #[.string s, .string ⟨#[58, 47, 63, 35]⟩] W fun e w' => e = .returned (.int .i64 (i : Nat)) ∧ ∃ n, w' = W.drewN n := fun W => hi ▸ index_any s ⟨#[58, 47, 63, 35]⟩ W hs (by show (4 : Nat) ≤ 1099511627776; omega)
  have CI := Lib.hid cI
  have HI := Lib.hid hi
  clear cI hi
  go_enter Tryd.func11, Tryd.ntmps11
  go_upto_region 3 with (go_at_call 21; refine (CI.out _).mono ?_; rintro e w' ⟨rfl, n1, rfl⟩)
  go_cut [22] (fun c wx => ∃ n, c = .bool (NU.spS (L s)) ∧ wx = (sp0 (sp0 w)).drewN n)
  case first =>
    by_cases h1 : 0 < i
    · by_cases h2 : i < s.size
      · have HB : Hid (NU.spS (L s) = ((s[i].toNat : Int) == 58)) := by
          show _ = _
          rw [NU.spS, ← HI.out, L_length, drop_cons s i h2, Bool.eq_iff_iff]
          have := u8_eq s[i] 58
          rw [show ((58 : UInt8).toNat : Int) = 58 from rfl] at this
          simp [h1, h2, this]
        go_wp2
        go_meet
        case rel => exact ⟨_, by rw [HB.out], rfl⟩
      · have HB : Hid (NU.spS (L s) = false) := by show _ = _; rw [NU.spS, ← HI.out, L_length]; simp [h2]
        go_wp2
        go_meet
        case rel => exact ⟨_, by rw [HB.out], rfl⟩
    · have HB : Hid (NU.spS (L s) = false) := by show _ = _; rw [NU.spS, ← HI.out, L_length]; simp [h1]
      have h1' : i ≤ 0 := by omega
      clear h1
      go_wp2
      go_meet
      case rel => exact ⟨_, by rw [HB.out], rfl⟩
  case rest =>
  obtain ⟨n, rfl, rfl⟩ := hcut
  go_upto_if 22 with fail
  go_cut [0] (fun c wx => ∃ n, c = .string (mk (NU.sp1 (L s))) ∧ wx = ((sp0 w).alloc (refO (NU.spS (L s)) (mk (NU.spScheme (L s))) false ⟨#[]⟩ ⟨#[]⟩ false ⟨#[]⟩ false ⟨#[]⟩)).drewN n)
  case first =>
    by_cases hS : NU.spS (L s) = true
    · have h2 : i + 1 ≤ s.size := by
        have := hS
        rw [NU.spS, ← HI.out, L_length] at this
        simp only [Bool.and_eq_true, decide_eq_true_eq] at this
        omega
      have HE : Hid (NU.spScheme (L s) = (L s).take i ∧ NU.sp1 (L s) = (L s).drop (i + 1)) := by
        show _ ∧ _; rw [NU.spScheme, NU.sp1, if_pos hS, if_pos hS, ← HI.out]; exact ⟨rfl, rfl⟩
      rw [hS]
      go_wp2
      go_region
      go_wp2
      go_meet
      case rel => exact and_ex (by rw [HE.out.2, ← ext_from]) (set_two (by simp) (by rw [hS, HE.out.1, ← ext_to]; rfl))
    · have hS : NU.spS (L s) = false := by simpa using hS
      have HE : Hid (NU.spScheme (L s) = [] ∧ NU.sp1 (L s) = L s) := by
        show _ ∧ _; rw [NU.spScheme, NU.sp1, hS]; exact ⟨rfl, rfl⟩
      rw [hS]
      go_wp2
      go_meet
      case rel => exact ⟨_, by rw [HE.out.2, mk_L], by rw [hS, HE.out.1]; rfl⟩
  case rest =>
  obtain ⟨n1, rfl, rfl⟩ := hcut
  clear CI HI hile
  obtain ⟨t, ht⟩ : ∃ t, t = mk (NU.sp1 (L s)) := ⟨_, rfl⟩
  have HT : Hid (L t = NU.sp1 (L s)) := by show _ = _; rw [ht, L_mk]
  have htz : t.size ≤ 1099511627776 := by have := NU.sp1_le (L s); rw [← L_length, HT.out]; rw [L_length] at this; omega
  rw [← ht]
  have HT' : Hid (t = mk (NU.sp1 (L s))) := ht
  clear ht
  have cB : ∀ W, Calls Tryd.prog 22 #[.string t, .string ⟨#[47, 47]⟩] W fun e w' => e = .returned (.bool (NU.spA (L s))) ∧ W = w' := fun W => by
    have := begins_any t ⟨#[47, 47]⟩ W htz (by show (2 : Nat) ≤ 1099511627776; omega)
    rwa [HT.out] at this
  have CB := Lib.hid cB
  clear cB
  go_upto_if 33 with (go_at_call 22; refine (CB.out _).mono ?_; rintro e w' ⟨rfl, rfl⟩)
  go_cut [0] (fun c wx => ∃ n, c = .string (mk (NU.sp2 (L s))) ∧ wx = ((sp0 w).alloc (refO (NU.spS (L s)) (mk (NU.spScheme (L s))) (NU.spA (L s)) (mk (NU.spAuth (L s))) ⟨#[]⟩ false ⟨#[]⟩ false ⟨#[]⟩)).drewN n)
  case first =>
    by_cases hS : NU.spA (L s) = true
    · have h2 : 2 ≤ t.size := by
        have := hS
        rw [NU.spA, ← HT.out, NU.begins, List.isPrefixOf_iff_prefix] at this
        have := this.length_le
        rw [L_length] at this; exact this
      obtain ⟨u, hu⟩ : ∃ u, u = t.extract 2 t.size := ⟨_, rfl⟩
      have HU : Hid (L u = (NU.sp1 (L s)).drop 2) := by show _ = _; rw [hu, ext_from, L_mk, HT.out]
      have huz : u.size ≤ 1099511627776 := by rw [hu, ext_from, mk_size, List.length_drop, L_length]; omega
      have hu' := hu.symm
      obtain ⟨i, hi⟩ : ∃ i, i = NU.spAI (L s) := ⟨_, rfl⟩
      have hile : i ≤ u.size := by rw [hi, ← L_length, HU.out]; exact NU.index_le _ _
      have cI : ∀ W, Calls Tryd.prog 21 #[.string u, .string ⟨#[47, 63, 35]⟩] W fun e w' => e = .returned (.int .i64 (i : Nat)) ∧ ∃ n, w' = W.drewN n := fun W => by
        have := index_any u ⟨#[47, 63, 35]⟩ W huz (by show (3 : Nat) ≤ 1099511627776; omega)
        rw [HU.out] at this
        exact hi ▸ this
      have CI := Lib.hid cI
      have HE : Hid (NU.spAuth (L s) = (L u).take i ∧ NU.sp2 (L s) = (L u).drop i) := by
        show _ ∧ _; rw [NU.spAuth, NU.sp2, if_pos hS, if_pos hS, ← hi, HU.out]; exact ⟨rfl, rfl⟩
      clear cI hi hu
      rw [hS]
      go_wp2_with (go_at_call 21; refine (CI.out _).mono ?_; rintro e w' ⟨rfl, n2, rfl⟩)
      go_region
      go_wp2
      go_meet
      case rel => exact and_ex (by rw [HE.out.2, ← ext_from]) (set_two (by simp) (by rw [hS, HE.out.1, ← ext_to]; rfl))
    · have hS : NU.spA (L s) = false := by simpa using hS
      have HE : Hid (NU.spAuth (L s) = [] ∧ NU.sp2 (L s) = NU.sp1 (L s)) := by
        show _ ∧ _; rw [NU.spAuth, NU.sp2, hS]; exact ⟨rfl, rfl⟩
      rw [hS]
      go_wp2
      go_meet
      case rel => exact ⟨_, by rw [HE.out.2, HT'.out], by rw [hS, HE.out.1]; rfl⟩
  case rest =>
  obtain ⟨n2, rfl, rfl⟩ := hcut
  clear CB HT HT' htz t
  obtain ⟨t, ht⟩ : ∃ t, t = mk (NU.sp2 (L s)) := ⟨_, rfl⟩
  have HT : Hid (L t = NU.sp2 (L s)) := by show _ = _; rw [ht, L_mk]
  have htz : t.size ≤ 1099511627776 := by have := NU.sp2_le (L s); rw [← L_length, HT.out]; rw [L_length] at this; omega
  rw [← ht]
  clear ht
  obtain ⟨i, hi⟩ : ∃ i, i = NU.spPI (L s) := ⟨_, rfl⟩
  have hile : i ≤ t.size := by rw [hi, ← L_length, HT.out]; exact NU.index_le _ _
  have cI : ∀ W, Calls Tryd.prog 21 #[.string t, .string ⟨#[63, 35]⟩] W fun e w' => e = .returned (.int .i64 (i : Nat)) ∧ ∃ n, w' = W.drewN n := fun W => by
    have := index_any t ⟨#[63, 35]⟩ W htz (by show (2 : Nat) ≤ 1099511627776; omega)
    rw [HT.out] at this
    exact hi ▸ this
  have CI := Lib.hid cI
  have HE : Hid (mk (NU.spPath (L s)) = t.extract 0 i ∧ mk (NU.sp3 (L s)) = t.extract i t.size) := by
    show _ ∧ _; rw [NU.spPath, NU.sp3, ext_to, ext_from, HT.out, hi]; exact ⟨rfl, rfl⟩
  clear cI hi
  go_upto_region 10 with (go_at_call 21; refine (CI.out _).mono ?_; rintro e w' ⟨rfl, n2, rfl⟩)
  go_cut [0] (fun c wx => ∃ n, c = .string (mk (NU.sp3 (L s))) ∧ wx = ((sp0 w).alloc (refO (NU.spS (L s)) (mk (NU.spScheme (L s))) (NU.spA (L s)) (mk (NU.spAuth (L s))) (mk (NU.spPath (L s))) false ⟨#[]⟩ false ⟨#[]⟩)).drewN n)
  case first =>
    go_region
    go_wp2
    go_meet
    case rel => exact ⟨_, by rw [HE.out.2], by rw [set_own _ _ _ _ _ _ _ _ (by simp), HE.out.1]; rfl⟩
  case rest =>
  obtain ⟨n3, rfl, rfl⟩ := hcut
  clear CI HT htz HE hile t
  obtain ⟨t, ht⟩ : ∃ t, t = mk (NU.sp3 (L s)) := ⟨_, rfl⟩
  have HT : Hid (L t = NU.sp3 (L s)) := by show _ = _; rw [ht, L_mk]
  have htz : t.size ≤ 1099511627776 := by have := NU.sp3_le (L s); rw [← L_length, HT.out]; rw [L_length] at this; omega
  rw [← ht]
  have HT' : Hid (t = mk (NU.sp3 (L s))) := ht
  clear ht
  have cB : ∀ W, Calls Tryd.prog 22 #[.string t, .string ⟨#[63]⟩] W fun e w' => e = .returned (.bool (NU.spQ (L s))) ∧ W = w' := fun W => by
    have := begins_any t ⟨#[63]⟩ W htz (by show (1 : Nat) ≤ 1099511627776; omega)
    rwa [HT.out] at this
  have CB := Lib.hid cB
  clear cB
  go_upto_if 56 with (go_at_call 22; refine (CB.out _).mono ?_; rintro e w' ⟨rfl, rfl⟩)
  go_cut [0] (fun c wx => ∃ n, c = .string (mk (NU.sp4 (L s))) ∧ wx = ((sp0 w).alloc (refO (NU.spS (L s)) (mk (NU.spScheme (L s))) (NU.spA (L s)) (mk (NU.spAuth (L s))) (mk (NU.spPath (L s))) (NU.spQ (L s)) (mk (NU.spQuery (L s))) false ⟨#[]⟩)).drewN n)
  case first =>
    by_cases hS : NU.spQ (L s) = true
    · have hb := hS
      rw [NU.spQ, ← HT.out, NU.begins, List.isPrefixOf_iff_prefix] at hb
      have h2 : 1 ≤ t.size := by
        have := hb.length_le
        rw [L_length] at this; exact this
      obtain ⟨i, hi⟩ : ∃ i, i = NU.spQI (L s) := ⟨_, rfl⟩
      have hile : i ≤ t.size := by rw [hi, ← L_length, HT.out]; exact NU.index_le _ _
      have hi1 : 1 ≤ i := by
        rw [hi, NU.spQI, ← HT.out]
        obtain ⟨r, hr⟩ := hb
        rw [← hr]; simp [NU.index_cons, NU.mem]
      have cI : ∀ W, Calls Tryd.prog 21 #[.string t, .string ⟨#[35]⟩] W fun e w' => e = .returned (.int .i64 (i : Nat)) ∧ ∃ n, w' = W.drewN n := fun W => by
        have := index_any t ⟨#[35]⟩ W htz (by show (1 : Nat) ≤ 1099511627776; omega)
        rw [HT.out] at this
        exact hi ▸ this
      have CI := Lib.hid cI
      have HE : Hid (mk (NU.spQuery (L s)) = t.extract 1 i ∧ mk (NU.sp4 (L s)) = t.extract i t.size) := by
        show _ ∧ _; rw [NU.spQuery, NU.sp4, if_pos hS, if_pos hS, ext_mk, ext_from, HT.out, hi]; exact ⟨rfl, rfl⟩
      clear cI hi hb
      rw [hS]
      go_wp2_with (go_at_call 21; refine (CI.out _).mono ?_; rintro e w' ⟨rfl, n2, rfl⟩)
      go_region
      go_wp2
      go_meet
      case rel => exact and_ex (by rw [HE.out.2]) (set_two (by simp) (by rw [hS, HE.out.1]; rfl))
    · have hS : NU.spQ (L s) = false := by simpa using hS
      have HE : Hid (NU.spQuery (L s) = [] ∧ NU.sp4 (L s) = NU.sp3 (L s)) := by
        show _ ∧ _; rw [NU.spQuery, NU.sp4, hS]; exact ⟨rfl, rfl⟩
      rw [hS]
      go_wp2
      go_meet
      case rel => exact ⟨_, by rw [HE.out.2, HT'.out], by rw [hS, HE.out.1]; rfl⟩
  case rest =>
  obtain ⟨n4, rfl, rfl⟩ := hcut
  clear CB HT HT' htz t
  obtain ⟨t, ht⟩ : ∃ t, t = mk (NU.sp4 (L s)) := ⟨_, rfl⟩
  have HT : Hid (L t = NU.sp4 (L s)) := by show _ = _; rw [ht, L_mk]
  have htz : t.size ≤ 1099511627776 := by have := NU.sp4_le (L s); rw [← L_length, HT.out]; rw [L_length] at this; omega
  rw [← ht]
  clear ht
  have cB : ∀ W, Calls Tryd.prog 22 #[.string t, .string ⟨#[35]⟩] W fun e w' => e = .returned (.bool (NU.spF (L s))) ∧ W = w' := fun W => by
    have := begins_any t ⟨#[35]⟩ W htz (by show (1 : Nat) ≤ 1099511627776; omega)
    rwa [HT.out] at this
  have CB := Lib.hid cB
  clear cB
  go_upto_if 68 with (go_at_call 22; refine (CB.out _).mono ?_; rintro e w' ⟨rfl, rfl⟩)
  go_cut [0] (fun _ wx => ∃ n, wx = ((sp0 w).alloc (refO (NU.spS (L s)) (mk (NU.spScheme (L s))) (NU.spA (L s)) (mk (NU.spAuth (L s))) (mk (NU.spPath (L s))) (NU.spQ (L s)) (mk (NU.spQuery (L s))) (NU.spF (L s)) (mk (NU.spFrag (L s))))).drewN n)
  case first =>
    by_cases hS : NU.spF (L s) = true
    · have h2 : 1 ≤ t.size := by
        have hb := hS
        rw [NU.spF, ← HT.out, NU.begins, List.isPrefixOf_iff_prefix] at hb
        have := hb.length_le
        rw [L_length] at this; exact this
      have HE : Hid (mk (NU.spFrag (L s)) = t.extract 1 t.size) := by
        show _ = _; rw [NU.spFrag, if_pos hS, ext_from, HT.out]
      rw [hS]
      go_wp2
      go_region
      go_wp2
      go_meet
      case rel => exact set_two (by simp) (by rw [hS, HE.out]; rfl)
    · have hS : NU.spF (L s) = false := by simpa using hS
      have HE : Hid (NU.spFrag (L s) = []) := by
        show _ = _; rw [NU.spFrag, hS]; rfl
      rw [hS]
      go_wp2
      go_meet
      case rel => exact ⟨_, by rw [hS, HE.out]; rfl⟩
  case rest =>
  obtain ⟨n5, rfl⟩ := hcut
  go_wp2
  refine bodyPost_ret (v := refV (L s)) ?_ rfl ⟨rfl, ?_⟩
  · simp [results, Tryd.results11, go_sem]
  · exact (((((((((((((Fr.refl _).alloc _).alloc _).drewN _).setCell (Nat.le_refl _) _).setCell (Nat.le_refl _) _).setCell (Nat.le_refl _) _).setCell (Nat.le_refl _) _).setCell (Nat.le_refl _) _).setCell (Nat.le_refl _) _).setCell (Nat.le_refl _) _).setCell (Nat.le_refl _) _).setCell (Nat.le_refl _) _)
end Go.Proofs.YtibcegbacnjmfaaDoor
