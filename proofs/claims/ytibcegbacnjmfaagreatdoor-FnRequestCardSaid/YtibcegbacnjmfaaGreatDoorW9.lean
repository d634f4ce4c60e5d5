import Derived.Test.YtibcegbacnjmfaaGreatDoorW8
import Derived.Test.YtibcegbacnjmfaaGreatDoorP
import Derived.Deep.DeepCutAuto
import Derived.BigRegion
import Derived.Test.YtibcegbacnjmfaaGreatDoorW5
import Derived.Test.YtibcegbacnjmfaaGreatDoorBlk
import Derived.Deep.RegionWith
namespace Go.Proofs.YtibcegbacnjmfaaGreatDoor
set_option linter.unusedVariables false
set_option linter.unusedSimpArgs false
open Go.RowKit

abbrev refA (hs : Bool) (sc : ByteArray) (ha : Bool) (au pa : ByteArray) (hq : Bool) (qu : ByteArray) (hf : Bool) (fr : ByteArray) : Array Value :=
  #[.bool hs, .string sc, .bool ha, .string au, .string pa, .bool hq, .string qu, .bool hf, .string fr]
abbrev refO (hs : Bool) (sc : ByteArray) (ha : Bool) (au pa : ByteArray) (hq : Bool) (qu : ByteArray) (hf : Bool) (fr : ByteArray) : Obj :=
  .cells (refA hs sc ha au pa hq qu hf fr) 23
/-- A reference's parts as a value. -/
abbrev refV (l : List UInt8) : Value := .agg (refA (NU.spS l) (mk (NU.spScheme l)) (NU.spA l) (mk (NU.spAuth l)) (mk (NU.spPath l)) (NU.spQ l) (mk (NU.spQuery l)) (NU.spF l) (mk (NU.spFrag l)))
abbrev sp0 (w : World) : World := w.alloc (refO false ⟨#[]⟩ false ⟨#[]⟩ ⟨#[]⟩ false ⟨#[]⟩ false ⟨#[]⟩)

theorem setCell_drewN (w : World) (n : Nat) (a : Addr) (v : Value) : (w.drewN n).setCell a v = (w.setCell a v).drewN n := rfl
theorem set_own (w : World) (o : Obj) (c : Array Value) (t : TypeId) (n b i : Nat) (v : Value) (hb : b = (w.alloc o).heap.size) :
    (((w.alloc o).alloc (.cells c t)).drewN n).setCell ⟨b, i, none⟩ v = ((w.alloc o).alloc (.cells (c.setIfInBounds i v) t)).drewN n := by
  rw [setCell_drewN, World.setCell_alloc_at _ _ _ _ _ hb]
theorem set_two {w : World} {o : Obj} {c c' : Array Value} {t : TypeId} {n b i j : Nat} {v u : Value} (hb : b = (w.alloc o).heap.size) (hc : (c.setIfInBounds i v).setIfInBounds j u = c') :
    ∃ m, ((((w.alloc o).alloc (.cells c t)).drewN n).setCell ⟨b, i, none⟩ v).setCell ⟨b, j, none⟩ u = ((w.alloc o).alloc (.cells c' t)).drewN m :=
  ⟨n, by rw [set_own _ _ _ _ _ _ _ _ hb, set_own _ _ _ _ _ _ _ _ hb, hc]⟩
theorem and_ex {p : Prop} {q : Nat → Prop} (h : p) (h' : ∃ n, q n) : ∃ n, p ∧ q n := by obtain ⟨n, hn⟩ := h'; exact ⟨n, h, hn⟩

set_option maxHeartbeats 2000000 in
theorem Split_any (s : ByteArray) (w : World) (hs : s.size ≤ 35184372088832) :
    Calls Tryz.prog 5 #[.string s] w fun e w' => e = .returned (refV (L s)) ∧ Fr w w' := by
  obtain ⟨i, hi⟩ : ∃ i, i = NU.spI (L s) := ⟨_, rfl⟩
  have hile : i ≤ s.size := by rw [hi, ← L_length]; exact NU.index_le _ _
  have cI : ∀ W, Calls Tryz.prog 15 #[.string s, .string ⟨#[58, 47, 63, 35]⟩] W fun e w' => e = .returned (.int .i64 (i : Nat)) ∧ ∃ n, w' = W.drewN n := fun W => hi ▸ index_any s ⟨#[58, 47, 63, 35]⟩ W hs (by show (4 : Nat) ≤ 35184372088832; omega)
  have CI := Lib.hid cI
  have HI := Lib.hid hi
  clear cI hi
  go_enter Tryz.func5, Tryz.ntmps5
  go_upto_region 3 with (go_at_call 15; refine (CI.out _).mono ?_; rintro e w' ⟨rfl, n1, rfl⟩)
  go_cut [22] (fun c wx => ∃ n, c = .bool (NU.spS (L s)) ∧ wx = (sp0 (sp0 w)).drewN n)
  case first =>
    by_cases h1 : 0 < i
    · by_cases h2 : i < s.size
      · have HB : Hid (NU.spS (L s) = ((s[i].toNat : Int) == 58)) := by
          show _ = _
          rw [NU.spS, ← HI.out, L_length, drop_cons s i h2, Bool.eq_iff_iff]
          have := u8_eq s[i] 58
          rw [show ((58 : UInt8).toNat : Int) = 58 from rfl] at this
          simp [h1, h2, this]
        go_wp2
        go_meet
        case rel => exact ⟨_, by rw [HB.out], rfl⟩
      · have HB : Hid (NU.spS (L s) = false) := by show _ = _; rw [NU.spS, ← HI.out, L_length]; simp [h2]
        go_wp2
        go_meet
        case rel => exact ⟨_, by rw [HB.out], rfl⟩
    · have HB : Hid (NU.spS (L s) = false) := by show _ = _; rw [NU.spS, ← HI.out, L_length]; simp [h1]
      have h1' : i ≤ 0 := by omega
      clear h1
      go_wp2
      go_meet
      case rel => exact ⟨_, by rw [HB.out], rfl⟩
  case rest =>
  obtain ⟨n, rfl, rfl⟩ := hcut
  go_upto_if 22 with fail
  go_cut [0] (fun c wx => ∃ n, c = .string (mk (NU.sp1 (L s))) ∧ wx = ((sp0 w).alloc (refO (NU.spS (L s)) (mk (NU.spScheme (L s))) false ⟨#[]⟩ ⟨#[]⟩ false ⟨#[]⟩ false ⟨#[]⟩)).drewN n)
  case first =>
    by_cases hS : NU.spS (L s) = true
    · have h2 : i + 1 ≤ s.size := by
        have := hS
        rw [NU.spS, ← HI.out, L_length] at this
        simp only [Bool.and_eq_true, decide_eq_true_eq] at this
        omega
      have HE : Hid (NU.spScheme (L s) = (L s).take i ∧ NU.sp1 (L s) = (L s).drop (i + 1)) := by
        show _ ∧ _; rw [NU.spScheme, NU.sp1, if_pos hS, if_pos hS, ← HI.out]; exact ⟨rfl, rfl⟩
      rw [hS]
      go_wp2
      go_region
      go_wp2
      go_meet
      case rel => exact and_ex (by rw [HE.out.2, ← ext_from]) (set_two (by simp) (by rw [hS, HE.out.1, ← ext_to]; rfl))
    · have hS : NU.spS (L s) = false := by simpa using hS
      have HE : Hid (NU.spScheme (L s) = [] ∧ NU.sp1 (L s) = L s) := by
        show _ ∧ _; rw [NU.spScheme, NU.sp1, hS]; exact ⟨rfl, rfl⟩
      rw [hS]
      go_wp2
      go_meet
      case rel => exact ⟨_, by rw [HE.out.2, mk_L], by rw [hS, HE.out.1]; rfl⟩
  case rest =>
  obtain ⟨n1, rfl, rfl⟩ := hcut
  clear CI HI hile
  obtain ⟨t, ht⟩ : ∃ t, t = mk (NU.sp1 (L s)) := ⟨_, rfl⟩
  have HT : Hid (L t = NU.sp1 (L s)) := by show _ = _; rw [ht, L_mk]
  have htz : t.size ≤ 35184372088832 := by have := NU.sp1_le (L s); rw [← L_length, HT.out]; rw [L_length] at this; omega
  rw [← ht]
  have HT' : Hid (t = mk (NU.sp1 (L s))) := ht
  clear ht
  have cB : ∀ W, Calls Tryz.prog 16 #[.string t, .string ⟨#[47, 47]⟩] W fun e w' => e = .returned (.bool (NU.spA (L s))) ∧ W = w' := fun W => by
    have := begins_any t ⟨#[47, 47]⟩ W htz (by show (2 : Nat) ≤ 35184372088832; omega)
    rwa [HT.out] at this
  have CB := Lib.hid cB
  clear cB
  go_upto_if 33 with (go_at_call 16; refine (CB.out _).mono ?_; rintro e w' ⟨rfl, rfl⟩)
  go_cut [0] (fun c wx => ∃ n, c = .string (mk (NU.sp2 (L s))) ∧ wx = ((sp0 w).alloc (refO (NU.spS (L s)) (mk (NU.spScheme (L s))) (NU.spA (L s)) (mk (NU.spAuth (L s))) ⟨#[]⟩ false ⟨#[]⟩ false ⟨#[]⟩)).drewN n)
  case first =>
    by_cases hS : NU.spA (L s) = true
    · have h2 : 2 ≤ t.size := by
        have := hS
        rw [NU.spA, ← HT.out, NU.begins, List.isPrefixOf_iff_prefix] at this
        have := this.length_le
        rw [L_length] at this; exact this
      obtain ⟨u, hu⟩ : ∃ u, u = t.extract 2 t.size := ⟨_, rfl⟩
      have HU : Hid (L u = (NU.sp1 (L s)).drop 2) := by show _ = _; rw [hu, ext_from, L_mk, HT.out]
      have huz : u.size ≤ 35184372088832 := by rw [hu, ext_from, mk_size, List.length_drop, L_length]; omega
      have hu' := hu.symm
      obtain ⟨i, hi⟩ : ∃ i, i = NU.spAI (L s) := ⟨_, rfl⟩
      have hile : i ≤ u.size := by rw [hi, ← L_length, HU.out]; exact NU.index_le _ _
      have cI : ∀ W, Calls Tryz.prog 15 #[.string u, .string ⟨#[47, 63, 35]⟩] W fun e w' => e = .returned (.int .i64 (i : Nat)) ∧ ∃ n, w' = W.drewN n := fun W => by
        have := index_any u ⟨#[47, 63, 35]⟩ W huz (by show (3 : Nat) ≤ 35184372088832; omega)
        rw [HU.out] at this
        exact hi ▸ this
      have CI := Lib.hid cI
      have HE : Hid (NU.spAuth (L s) = (L u).take i ∧ NU.sp2 (L s) = (L u).drop i) := by
        show _ ∧ _; rw [NU.spAuth, NU.sp2, if_pos hS, if_pos hS, ← hi, HU.out]; exact ⟨rfl, rfl⟩
      clear cI hi hu
      rw [hS]
      go_wp2_with (go_at_call 15; refine (CI.out _).mono ?_; rintro e w' ⟨rfl, n2, rfl⟩)
      go_region
      go_wp2
      go_meet
      case rel => exact and_ex (by rw [HE.out.2, ← ext_from]) (set_two (by simp) (by rw [hS, HE.out.1, ← ext_to]; rfl))
    · have hS : NU.spA (L s) = false := by simpa using hS
      have HE : Hid (NU.spAuth (L s) = [] ∧ NU.sp2 (L s) = NU.sp1 (L s)) := by
        show _ ∧ _; rw [NU.spAuth, NU.sp2, hS]; exact ⟨rfl, rfl⟩
      rw [hS]
      go_wp2
      go_meet
      case rel => exact ⟨_, by rw [HE.out.2, HT'.out], by rw [hS, HE.out.1]; rfl⟩
  case rest =>
  obtain ⟨n2, rfl, rfl⟩ := hcut
  clear CB HT HT' htz t
  obtain ⟨t, ht⟩ : ∃ t, t = mk (NU.sp2 (L s)) := ⟨_, rfl⟩
  have HT : Hid (L t = NU.sp2 (L s)) := by show _ = _; rw [ht, L_mk]
  have htz : t.size ≤ 35184372088832 := by have := NU.sp2_le (L s); rw [← L_length, HT.out]; rw [L_length] at this; omega
  rw [← ht]
  clear ht
  obtain ⟨i, hi⟩ : ∃ i, i = NU.spPI (L s) := ⟨_, rfl⟩
  have hile : i ≤ t.size := by rw [hi, ← L_length, HT.out]; exact NU.index_le _ _
  have cI : ∀ W, Calls Tryz.prog 15 #[.string t, .string ⟨#[63, 35]⟩] W fun e w' => e = .returned (.int .i64 (i : Nat)) ∧ ∃ n, w' = W.drewN n := fun W => by
    have := index_any t ⟨#[63, 35]⟩ W htz (by show (2 : Nat) ≤ 35184372088832; omega)
    rw [HT.out] at this
    exact hi ▸ this
  have CI := Lib.hid cI
  have HE : Hid (mk (NU.spPath (L s)) = t.extract 0 i ∧ mk (NU.sp3 (L s)) = t.extract i t.size) := by
    show _ ∧ _; rw [NU.spPath, NU.sp3, ext_to, ext_from, HT.out, hi]; exact ⟨rfl, rfl⟩
  clear cI hi
  go_upto_region 10 with (go_at_call 15; refine (CI.out _).mono ?_; rintro e w' ⟨rfl, n2, rfl⟩)
  go_cut [0] (fun c wx => ∃ n, c = .string (mk (NU.sp3 (L s))) ∧ wx = ((sp0 w).alloc (refO (NU.spS (L s)) (mk (NU.spScheme (L s))) (NU.spA (L s)) (mk (NU.spAuth (L s))) (mk (NU.spPath (L s))) false ⟨#[]⟩ false ⟨#[]⟩)).drewN n)
  case first =>
    go_region
    go_wp2
    go_meet
    case rel => exact ⟨_, by rw [HE.out.2], by rw [set_own _ _ _ _ _ _ _ _ (by simp), HE.out.1]; rfl⟩
  case rest =>
  obtain ⟨n3, rfl, rfl⟩ := hcut
  clear CI HT htz HE hile t
  obtain ⟨t, ht⟩ : ∃ t, t = mk (NU.sp3 (L s)) := ⟨_, rfl⟩
  have HT : Hid (L t = NU.sp3 (L s)) := by show _ = _; rw [ht, L_mk]
  have htz : t.size ≤ 35184372088832 := by have := NU.sp3_le (L s); rw [← L_length, HT.out]; rw [L_length] at this; omega
  rw [← ht]
  have HT' : Hid (t = mk (NU.sp3 (L s))) := ht
  clear ht
  have cB : ∀ W, Calls Tryz.prog 16 #[.string t, .string ⟨#[63]⟩] W fun e w' => e = .returned (.bool (NU.spQ (L s))) ∧ W = w' := fun W => by
    have := begins_any t ⟨#[63]⟩ W htz (by show (1 : Nat) ≤ 35184372088832; omega)
    rwa [HT.out] at this
  have CB := Lib.hid cB
  clear cB
  go_upto_if 56 with (go_at_call 16; refine (CB.out _).mono ?_; rintro e w' ⟨rfl, rfl⟩)
  go_cut [0] (fun c wx => ∃ n, c = .string (mk (NU.sp4 (L s))) ∧ wx = ((sp0 w).alloc (refO (NU.spS (L s)) (mk (NU.spScheme (L s))) (NU.spA (L s)) (mk (NU.spAuth (L s))) (mk (NU.spPath (L s))) (NU.spQ (L s)) (mk (NU.spQuery (L s))) false ⟨#[]⟩)).drewN n)
  case first =>
    by_cases hS : NU.spQ (L s) = true
    · have hb := hS
      rw [NU.spQ, ← HT.out, NU.begins, List.isPrefixOf_iff_prefix] at hb
      have h2 : 1 ≤ t.size := by
        have := hb.length_le
        rw [L_length] at this; exact this
      obtain ⟨i, hi⟩ : ∃ i, i = NU.spQI (L s) := ⟨_, rfl⟩
      have hile : i ≤ t.size := by rw [hi, ← L_length, HT.out]; exact NU.index_le _ _
      have hi1 : 1 ≤ i := by
        rw [hi, NU.spQI, ← HT.out]
        obtain ⟨r, hr⟩ := hb
        rw [← hr]; simp [NU.index_cons, NU.mem]
      have cI : ∀ W, Calls Tryz.prog 15 #[.string t, .string ⟨#[35]⟩] W fun e w' => e = .returned (.int .i64 (i : Nat)) ∧ ∃ n, w' = W.drewN n := fun W => by
        have := index_any t ⟨#[35]⟩ W htz (by show (1 : Nat) ≤ 35184372088832; omega)
        rw [HT.out] at this
        exact hi ▸ this
      have CI := Lib.hid cI
      have HE : Hid (mk (NU.spQuery (L s)) = t.extract 1 i ∧ mk (NU.sp4 (L s)) = t.extract i t.size) := by
        show _ ∧ _; rw [NU.spQuery, NU.sp4, if_pos hS, if_pos hS, ext_mk, ext_from, HT.out, hi]; exact ⟨rfl, rfl⟩
      clear cI hi hb
      rw [hS]
      go_wp2_with (go_at_call 15; refine (CI.out _).mono ?_; rintro e w' ⟨rfl, n2, rfl⟩)
      go_region
      go_wp2
      go_meet
      case rel => exact and_ex (by rw [HE.out.2]) (set_two (by simp) (by rw [hS, HE.out.1]; rfl))
    · have hS : NU.spQ (L s) = false := by simpa using hS
      have HE : Hid (NU.spQuery (L s) = [] ∧ NU.sp4 (L s) = NU.sp3 (L s)) := by
        show _ ∧ _; rw [NU.spQuery, NU.sp4, hS]; exact ⟨rfl, rfl⟩
      rw [hS]
      go_wp2
      go_meet
      case rel => exact ⟨_, by rw [HE.out.2, HT'.out], by rw [hS, HE.out.1]; rfl⟩
  case rest =>
  obtain ⟨n4, rfl, rfl⟩ := hcut
  clear CB HT HT' htz t
  obtain ⟨t, ht⟩ : ∃ t, t = mk (NU.sp4 (L s)) := ⟨_, rfl⟩
  have HT : Hid (L t = NU.sp4 (L s)) := by show _ = _; rw [ht, L_mk]
  have htz : t.size ≤ 35184372088832 := by have := NU.sp4_le (L s); rw [← L_length, HT.out]; rw [L_length] at this; omega
  rw [← ht]
  clear ht
  have cB : ∀ W, Calls Tryz.prog 16 #[.string t, .string ⟨#[35]⟩] W fun e w' => e = .returned (.bool (NU.spF (L s))) ∧ W = w' := fun W => by
    have := begins_any t ⟨#[35]⟩ W htz (by show (1 : Nat) ≤ 35184372088832; omega)
    rwa [HT.out] at this
  have CB := Lib.hid cB
  clear cB
  go_upto_if 68 with (go_at_call 16; refine (CB.out _).mono ?_; rintro e w' ⟨rfl, rfl⟩)
  go_cut [0] (fun _ wx => ∃ n, wx = ((sp0 w).alloc (refO (NU.spS (L s)) (mk (NU.spScheme (L s))) (NU.spA (L s)) (mk (NU.spAuth (L s))) (mk (NU.spPath (L s))) (NU.spQ (L s)) (mk (NU.spQuery (L s))) (NU.spF (L s)) (mk (NU.spFrag (L s))))).drewN n)
  case first =>
    by_cases hS : NU.spF (L s) = true
    · have h2 : 1 ≤ t.size := by
        have hb := hS
        rw [NU.spF, ← HT.out, NU.begins, List.isPrefixOf_iff_prefix] at hb
        have := hb.length_le
        rw [L_length] at this; exact this
      have HE : Hid (mk (NU.spFrag (L s)) = t.extract 1 t.size) := by
        show _ = _; rw [NU.spFrag, if_pos hS, ext_from, HT.out]
      rw [hS]
      go_wp2
      go_region
      go_wp2
      go_meet
      case rel => exact set_two (by simp) (by rw [hS, HE.out]; rfl)
    · have hS : NU.spF (L s) = false := by simpa using hS
      have HE : Hid (NU.spFrag (L s) = []) := by
        show _ = _; rw [NU.spFrag, hS]; rfl
      rw [hS]
      go_wp2
      go_meet
      case rel => exact ⟨_, by rw [hS, HE.out]; rfl⟩
  case rest =>
  obtain ⟨n5, rfl⟩ := hcut
  go_wp2
  refine bodyPost_ret (v := refV (L s)) ?_ rfl ⟨rfl, ?_⟩
  · simp [results, Tryz.results5, go_sem]
  · exact (((((((((((((Fr.refl _).alloc _).alloc _).drewN _).setCell (Nat.le_refl _) _).setCell (Nat.le_refl _) _).setCell (Nat.le_refl _) _).setCell (Nat.le_refl _) _).setCell (Nat.le_refl _) _).setCell (Nat.le_refl _) _).setCell (Nat.le_refl _) _).setCell (Nat.le_refl _) _).setCell (Nat.le_refl _) _)
end Go.Proofs.YtibcegbacnjmfaaGreatDoor
namespace Go.Proofs.YtibcegbacnjmfaaGreatDoor
set_option linter.unusedVariables false
set_option linter.unusedSimpArgs false
open Go.RowKit

abbrev auA (h : Bool) (u v : ByteArray) : Array Value := #[.bool h, .string u, .string v]
abbrev auO (h : Bool) (u v : ByteArray) : Obj := .cells (auA h u v) 40

/-- The two blocks of an authority: the result's, and the local one. -/
structure AuW (w wx : World) (h : Bool) (u v : ByteArray) : Prop where
  fr : Fr w wx
  a : Blk wx w.heap.size 40 (auA false ⟨#[]⟩ ⟨#[]⟩)
  b : Blk wx (w.heap.size + 1) 40 (auA h u v)

theorem AuW.made (w : World) (h : Bool) (u v : ByteArray) (n : Nat) : AuW w (((w.alloc (auO false ⟨#[]⟩ ⟨#[]⟩)).alloc (auO h u v)).drewN n) h u v where
  fr := (((Fr.refl _).alloc _).alloc _).drewN _
  a := ((Blk.new _ _ _).alloc _).drewN _
  b := by
    have := (Blk.new (w.alloc (auO false ⟨#[]⟩ ⟨#[]⟩)) 40 (auA h u v)).drewN n
    simpa using this
theorem AuW.step {w wx wy : World} {h : Bool} {u v : ByteArray} (k : AuW w wx h u v) (f : Fr wx wy) : AuW w wy h u v :=
  ⟨k.fr.trans f, k.a.below f k.a.lt, k.b.below f k.b.lt⟩
theorem AuW.drewN {w wx : World} {h : Bool} {u v : ByteArray} (k : AuW w wx h u v) (n : Nat) : AuW w (wx.drewN n) h u v := k.step ((Fr.refl _).drewN n)
theorem AuW.set2 {w wx : World} {h : Bool} {u v : ByteArray} (k : AuW w wx h u v) (z : ByteArray) : AuW w (wx.setCell ⟨w.heap.size + 1, 2, none⟩ (.string z)) h u z :=
  ⟨k.fr.setCell (by simp) _, k.a.far (by simp) _, k.b.set_ 2 _⟩
theorem AuW.of_region {w : World} {n : Nat} {p : ByteArray} :
    AuW w (((((w.alloc (auO false ⟨#[]⟩ ⟨#[]⟩)).alloc (auO false ⟨#[]⟩ ⟨#[]⟩)).drewN n).setCell ⟨w.heap.size + 1, 0, none⟩ (.bool true)).setCell ⟨w.heap.size + 1, 1, none⟩ (.string p)) true p ⟨#[]⟩ :=
  ⟨((AuW.made w false ⟨#[]⟩ ⟨#[]⟩ n).fr.setCell (by simp) _).setCell (by simp) _, ((AuW.made w false ⟨#[]⟩ ⟨#[]⟩ n).a.far (by simp) _).far (by simp) _, ((AuW.made w false ⟨#[]⟩ ⟨#[]⟩ n).b.set_ 0 _).set_ 1 _⟩
theorem AuW.facts {w wx : World} {h : Bool} {u v : ByteArray} (k : AuW w wx h u v) :
    wx.cell? ⟨w.heap.size, 0, none⟩ = some (.bool false) ∧ wx.cell? ⟨w.heap.size, 1, none⟩ = some (.string ⟨#[]⟩) ∧ wx.cell? ⟨w.heap.size, 2, none⟩ = some (.string ⟨#[]⟩) ∧
    wx.cell? ⟨w.heap.size + 1, 0, none⟩ = some (.bool h) ∧ wx.cell? ⟨w.heap.size + 1, 1, none⟩ = some (.string u) ∧ wx.cell? ⟨w.heap.size + 1, 2, none⟩ = some (.string v) ∧
    (∀ i, wx.frozen? ⟨w.heap.size, i, none⟩ = false) ∧ (∀ i, wx.frozen? ⟨w.heap.size + 1, i, none⟩ = false) :=
  ⟨k.a.cell 0, k.a.cell 1, k.a.cell 2, k.b.cell 0, k.b.cell 1, k.b.cell 2, k.a.frozen, k.b.frozen⟩
/-- isAuthority's answer. -/
abbrev auV (l : List UInt8) : Value := .tuple #[.agg (auA (NU.auU l) (mk (NU.auUser l)) (mk (NU.auHost l))), .bool (NU.auOk l)]

set_option maxRecDepth 100000 in
set_option maxHeartbeats 2000000 in
theorem isAuthority_any (s : ByteArray) (w : World) (hs : s.size ≤ 35184372088832) :
    Calls Tryz.prog 19 #[.string s] w fun e w' => e = .returned (auV (L s)) ∧ Fr w w' := by
  obtain ⟨i, hi⟩ : ∃ i, i = NU.auI (L s) := ⟨_, rfl⟩
  have hile : i ≤ s.size := by rw [hi, ← L_length]; exact NU.index_le _ _
  have cI : ∀ W, Calls Tryz.prog 15 #[.string s, .string ⟨#[64]⟩] W fun e w' => e = .returned (.int .i64 (i : Nat)) ∧ ∃ n, w' = W.drewN n := fun W => hi ▸ index_any s ⟨#[64]⟩ W hs (by show (1 : Nat) ≤ 35184372088832; omega)
  have CI := Lib.hid cI
  have HI := Lib.hid hi
  clear cI hi
  go_enter Tryz.func19, Tryz.ntmps19
  go_upto_if 14 with (go_at_call 15; refine (CI.out _).mono ?_; rintro e w' ⟨rfl, n1, rfl⟩)
  go_cut [0] (fun c wx => NU.auUok (L s) = true ∧ c = .string (mk (NU.auRest (L s))) ∧ AuW w wx (NU.auU (L s)) (mk (NU.auUser (L s))) ⟨#[]⟩)
  case first =>
    by_cases hlt : i < s.size
    · have HU : Hid (NU.auU (L s) = true) := by show _ = _; rw [NU.auU, ← HI.out, L_length]; simpa using hlt
      have HE : Hid (mk (NU.auUser (L s)) = s.extract 0 i ∧ mk (NU.auRest (L s)) = s.extract (i + 1) s.size) := by
        show _ ∧ _; rw [NU.auUser, NU.auRest, if_pos HU.out, if_pos HU.out, ext_to, ext_from, ← HI.out]; exact ⟨rfl, rfl⟩
      have h2 : i + 1 ≤ s.size := hlt
      obtain ⟨p, hp⟩ : ∃ p, p = s.extract 0 i := ⟨_, rfl⟩
      have hpz : p.size ≤ 35184372088832 := by rw [hp, ext_to, size_take _ _ hile]; omega
      have HP : Hid (NU.chars [58] true (L p) = NU.auUok (L s)) := by show _ = _; rw [NU.auUok, HU.out, hp, ← HE.out.1, L_mk]; simp
      have HE1 : Hid (p = mk (NU.auUser (L s))) := by show _ = _; rw [hp, HE.out.1]
      have hp' := hp.symm
      have cC : ∀ W, Calls Tryz.prog 18 #[.string p, .string ⟨#[58]⟩, .bool true] W fun e w' => e = .returned (.bool (NU.auUok (L s))) ∧ Fr W w' := fun W => by
        have := chars_any p ⟨#[58]⟩ true W hpz (by show (1 : Nat) ≤ 35184372088832; omega)
        rw [show L ⟨#[58]⟩ = [58] from rfl, HP.out] at this
        exact this
      have CC := Lib.hid cC
      clear hp cC
      by_cases hok : NU.auUok (L s) = true
      · rw [hok] at CC
        have HOK := Lib.hid hok
        clear hok
        go_wp2
        go_region
        go_wp2_with (go_at_call 18; refine (CC.out _).mono ?_; rintro e w1 ⟨rfl, hf1⟩; have hk1 := AuW.step AuW.of_region hf1; clear hf1)
        go_meet
        case rel => exact ⟨HOK.out, by rw [HE.out.2], by rw [HU.out, ← HE1.out]; exact hk1⟩
      · have hok : NU.auUok (L s) = false := by simpa using hok
        rw [hok] at CC
        have HOK : Hid (auV (L s) = .tuple #[.agg (auA true p ⟨#[]⟩), .bool false]) := by
          show _ = _; rw [auV, NU.auOk, NU.auHost, hok, HU.out, ← HE1.out]; rfl
        clear hok
        go_wp2
        go_region
        go_wp2_with (go_at_call 18; refine (CC.out _).mono ?_; rintro e w1 ⟨rfl, hf1⟩; have hk1 := AuW.step AuW.of_region hf1; obtain ⟨a0, a1, a2, b0, b1, b2, za, zb⟩ := hk1.facts; clear hf1)
        rw [HOK.out]
        refine bodyPost_ret (v := .tuple #[.agg (auA true p ⟨#[]⟩), .bool false]) ?_ rfl ⟨rfl, ?_⟩
        · simp [results, Tryz.results19, go_sem, a0, a1, a2, b0, b1, b2, za, zb]
        · exact ((hk1.fr.setCell (Nat.le_refl _) _).setCell (Nat.le_refl _) _).setCell (Nat.le_refl _) _
    · have HU : Hid (NU.auU (L s) = false) := by show _ = _; rw [NU.auU, ← HI.out, L_length]; simpa using hlt
      have HE : Hid (mk (NU.auUser (L s)) = ⟨#[]⟩ ∧ NU.auRest (L s) = L s ∧ NU.auUok (L s) = true) := by
        show _ ∧ _ ∧ _; rw [NU.auUser, NU.auRest, NU.auUok, HU.out]; exact ⟨rfl, rfl, rfl⟩
      go_wp2
      go_meet
      case rel => exact ⟨HE.out.2.2, by rw [HE.out.2.1, mk_L], by rw [HU.out, HE.out.1]; exact AuW.made _ _ _ _ _⟩
  case rest =>
  obtain ⟨hok, rfl, hk⟩ := hcut
  obtain ⟨a0, a1, a2, b0, b1, b2, za, zb⟩ := hk.facts
  obtain ⟨t, ht⟩ : ∃ t, t = mk (NU.auRest (L s)) := ⟨_, rfl⟩
  have HT : Hid (L t = NU.auRest (L s)) := by show _ = _; rw [ht, L_mk]
  have htz : t.size ≤ 35184372088832 := by have := NU.auRest_le (L s); rw [← L_length, HT.out]; rw [L_length] at this; omega
  obtain ⟨U, hU⟩ : ∃ U, U = NU.auU (L s) := ⟨_, rfl⟩
  obtain ⟨q, hq⟩ : ∃ q, q = mk (NU.auUser (L s)) := ⟨_, rfl⟩
  have HV0 : Hid (auV (L s) = .tuple #[.agg (auA U q t), .bool (NU.auHok (L t) && NU.optPort (NU.auS (L t)))]) := by
    show _ = _; rw [auV, NU.auOk, NU.auHost, hok, if_pos rfl, Bool.true_and, hU, hq, ht, L_mk]
  rw [← ht]
  rw [← hU, ← hq] at hk
  rw [← hU] at b0
  rw [← hq] at b1
  clear CI HI hile hok ht hU hq
  have hk2 := hk.set2 t
  have cB : ∀ W, Calls Tryz.prog 16 #[.string t, .string ⟨#[91]⟩] W fun e w' => e = .returned (.bool (NU.begins (L t) [91])) ∧ W = w' := fun W =>
    begins_any t ⟨#[91]⟩ W htz (by show (1 : Nat) ≤ 35184372088832; omega)
  have CB := Lib.hid cB
  clear cB
  go_upto_if 32 with (go_at_call 16; refine (CB.out _).mono ?_; rintro e w' ⟨rfl, rfl⟩)
  clear hk a0 a1 a2 b0 b1 b2 za zb
  generalize wc.setCell _ _ = wy at hk2 ⊢
  obtain ⟨a0, a1, a2, b0, b1, b2, za, zb⟩ := hk2.facts
  go_cut [0] (fun c wx => NU.auHok (L t) = true ∧ c = .string (mk (NU.auS (L t))) ∧ AuW w wx U q t)
  case first =>
    by_cases hb : NU.begins (L t) [91] = true
    · have hb' := hb
      rw [NU.begins, List.isPrefixOf_iff_prefix] at hb'
      obtain ⟨r, hr⟩ := hb'
      obtain ⟨n, hn⟩ : ∃ n, n = NU.index (L t) [93] := ⟨_, rfl⟩
      have hn1 : 1 ≤ n := by rw [hn, ← hr]; simp [NU.index_cons, NU.mem]
      have hnle : n ≤ t.size := by rw [hn, ← L_length]; exact NU.index_le _ _
      have cI : ∀ W, Calls Tryz.prog 15 #[.string t, .string ⟨#[93]⟩] W fun e w' => e = .returned (.int .i64 (n : Nat)) ∧ ∃ n, w' = W.drewN n := fun W => hn ▸ index_any t ⟨#[93]⟩ W htz (by show (1 : Nat) ≤ 35184372088832; omega)
      have CI := Lib.hid cI
      have HH : Hid (NU.auHok (L t) = (decide (n < t.size) && NU.isIPv6 (((L t).take n).drop 1))) := by show _ = _; rw [NU.auHok, if_pos hb, ← hn, L_length]
      have HS : Hid (mk (NU.auS (L t)) = t.extract (n + 1) t.size) := by show _ = _; rw [NU.auS, if_pos hb, ← hn, ext_from]
      have HB := Lib.hid hb
      rw [hb]
      clear hb hr r cI hn
      by_cases hlt : n < t.size
      · have hc1 : ((n : Int) == (t.size : Int)) = false := beq_eq_false_iff_ne.2 (by omega)
        have hc2 : (n == t.size) = false := beq_eq_false_iff_ne.2 (by omega)
        have hlt' : n + 1 ≤ t.size := hlt
        obtain ⟨p, hp⟩ : ∃ p, p = t.extract 1 n := ⟨_, rfl⟩
        have HP : Hid (L p = ((L t).take n).drop 1) := by show _ = _; rw [hp, ext_mk, L_mk, List.drop_take]
        have hpz : p.size ≤ 35184372088832 := by rw [← L_length, HP.out, List.length_drop, List.length_take, L_length]; omega
        have hp' := hp.symm
        have HH' : Hid (NU.auHok (L t) = NU.isIPv6 (L p)) := by show _ = _; rw [HH.out, HP.out, decide_eq_true hlt, Bool.true_and]
        have C6 := Lib.hid (fun W => isIPv6_any p W hpz)
        clear hp hlt HH
        by_cases h6 : NU.isIPv6 (L p) = true
        · rw [h6] at HH' C6
          clear h6
          go_wp2_with (first | (go_at_call 15; refine (CI.out _).mono ?_; rintro e w' ⟨rfl, n2, rfl⟩) | (go_at_call 31; refine (C6.out _).mono ?_; rintro e w' ⟨rfl, n3, rfl⟩))
          go_meet
          case rel => exact ⟨HH'.out, by rw [HS.out], by first | exact hk2.drewN _ | exact (hk2.drewN _).drewN _⟩
        · have h6 : NU.isIPv6 (L p) = false := by simpa using h6
          rw [h6] at HH' C6
          have HV : Hid (auV (L s) = .tuple #[.agg (auA U q t), .bool false]) := by show _ = _; rw [HV0.out, HH'.out]; rfl
          clear h6
          go_wp2_with (first | (go_at_call 15; refine (CI.out _).mono ?_; rintro e w' ⟨rfl, n2, rfl⟩) | (go_at_call 31; refine (C6.out _).mono ?_; rintro e w' ⟨rfl, n3, rfl⟩))
          rw [HV.out]
          refine bodyPost_ret (v := .tuple #[.agg (auA U q t), .bool false]) ?_ rfl ⟨rfl, ?_⟩
          · simp [results, Tryz.results19, go_sem, a0, a1, a2, b0, b1, b2, za, zb]
          · exact (((hk2.drewN _).fr.setCell (Nat.le_refl _) _).setCell (Nat.le_refl _) _).setCell (Nat.le_refl _) _
      · have hc1 : ((n : Int) == (t.size : Int)) = true := beq_iff_eq.2 (by omega)
        have hc2 : (n == t.size) = true := beq_iff_eq.2 (by omega)
        have HV : Hid (auV (L s) = .tuple #[.agg (auA U q t), .bool false]) := by show _ = _; rw [HV0.out, HH.out, decide_eq_false hlt]; rfl
        clear hlt HH
        go_wp2_with (first | (go_at_call 15; refine (CI.out _).mono ?_; rintro e w' ⟨rfl, n2, rfl⟩))
        rw [HV.out]
        refine bodyPost_ret (v := .tuple #[.agg (auA U q t), .bool false]) ?_ rfl ⟨rfl, ?_⟩
        · simp [results, Tryz.results19, go_sem, a0, a1, a2, b0, b1, b2, za, zb]
        · exact (((hk2.drewN _).fr.setCell (Nat.le_refl _) _).setCell (Nat.le_refl _) _).setCell (Nat.le_refl _) _
    · have hb : NU.begins (L t) [91] = false := by simpa using hb
      obtain ⟨n, hn⟩ : ∃ n, n = NU.index (L t) [58] := ⟨_, rfl⟩
      have hnle : n ≤ t.size := by rw [hn, ← L_length]; exact NU.index_le _ _
      have cI : ∀ W, Calls Tryz.prog 15 #[.string t, .string ⟨#[58]⟩] W fun e w' => e = .returned (.int .i64 (n : Nat)) ∧ ∃ n, w' = W.drewN n := fun W => hn ▸ index_any t ⟨#[58]⟩ W htz (by show (1 : Nat) ≤ 35184372088832; omega)
      have CI := Lib.hid cI
      obtain ⟨p, hp⟩ : ∃ p, p = t.extract 0 n := ⟨_, rfl⟩
      have HP : Hid (L p = (L t).take n) := by show _ = _; rw [hp, ext_to, L_mk]
      have hpz : p.size ≤ 35184372088832 := by rw [← L_length, HP.out, List.length_take, L_length]; omega
      have hp' := hp.symm
      have HH : Hid (NU.auHok (L t) = NU.chars [] false (L p)) := by show _ = _; rw [NU.auHok, hb, ← hn, HP.out]; rfl
      have HS : Hid (mk (NU.auS (L t)) = t.extract n t.size) := by show _ = _; rw [NU.auS, hb, ← hn, ext_from]; rfl
      have cC : ∀ W, Calls Tryz.prog 18 #[.string p, .string ⟨#[]⟩, .bool false] W fun e w' => e = .returned (.bool (NU.auHok (L t))) ∧ Fr W w' := fun W => by
        have := chars_any p ⟨#[]⟩ false W hpz (by show (0 : Nat) ≤ 35184372088832; omega)
        rw [show L ⟨#[]⟩ = [] from rfl, ← HH.out] at this
        exact this
      have CC := Lib.hid cC
      rw [hb]
      clear hb cI hn hp cC
      by_cases hh : NU.auHok (L t) = true
      · rw [hh] at CC
        have HHH := Lib.hid hh
        clear hh
        go_wp2_with (first | (go_at_call 15; refine (CI.out _).mono ?_; rintro e w' ⟨rfl, n2, rfl⟩) | (go_at_call 18; refine (CC.out _).mono ?_; rintro e w1 ⟨rfl, hf1⟩; have hk3 := AuW.step (hk2.drewN _) hf1; clear hf1))
        go_meet
        case rel => exact ⟨HHH.out, by rw [HS.out], hk3⟩
      · have hh : NU.auHok (L t) = false := by simpa using hh
        rw [hh] at CC
        have HV : Hid (auV (L s) = .tuple #[.agg (auA U q t), .bool false]) := by show _ = _; rw [HV0.out, hh]; rfl
        clear hh
        go_wp2_with (first | (go_at_call 15; refine (CI.out _).mono ?_; rintro e w' ⟨rfl, n2, rfl⟩) | (go_at_call 18; refine (CC.out _).mono ?_; rintro e w1 ⟨rfl, hf1⟩; have hk3 := AuW.step (hk2.drewN _) hf1; clear hf1; clear a0 a1 a2 b0 b1 b2 za zb; obtain ⟨a0, a1, a2, b0, b1, b2, za, zb⟩ := hk3.facts))
        rw [HV.out]
        refine bodyPost_ret (v := .tuple #[.agg (auA U q t), .bool false]) ?_ rfl ⟨rfl, ?_⟩
        · simp [results, Tryz.results19, go_sem, a0, a1, a2, b0, b1, b2, za, zb]
        · exact ((hk3.fr.setCell (Nat.le_refl _) _).setCell (Nat.le_refl _) _).setCell (Nat.le_refl _) _
  case rest =>
  obtain ⟨hh, rfl, hk⟩ := hcut
  clear a0 a1 a2 b0 b1 b2 za zb hk2
  obtain ⟨a0, a1, a2, b0, b1, b2, za, zb⟩ := hk.facts
  obtain ⟨u, hu⟩ : ∃ u, u = mk (NU.auS (L t)) := ⟨_, rfl⟩
  have HU : Hid (L u = NU.auS (L t)) := by show _ = _; rw [hu, L_mk]
  have huz : u.size ≤ 35184372088832 := by have := NU.auS_le (L t); rw [← L_length, HU.out]; rw [L_length] at this; omega
  have HV1 : Hid (auV (L s) = .tuple #[.agg (auA U q t), .bool (NU.optPort (L u))]) := by show _ = _; rw [HV0.out, hh, HU.out]; rfl
  rw [← hu]
  clear hu hh HV0 CB
  by_cases h0 : L u = []
  · have he : u.toList = [] := by rw [Lib.toList_data]; exact h0
    have HV : Hid (auV (L s) = .tuple #[.agg (auA U q t), .bool true]) := by show _ = _; rw [HV1.out, h0]; rfl
    clear h0
    go_wp2
    rw [HV.out]
    refine bodyPost_ret (v := .tuple #[.agg (auA U q t), .bool true]) ?_ rfl ⟨rfl, ?_⟩
    · simp [results, Tryz.results19, go_sem, a0, a1, a2, b0, b1, b2, za, zb]
    · exact ((hk.fr.setCell (Nat.le_refl _) _).setCell (Nat.le_refl _) _).setCell (Nat.le_refl _) _
  · have he : ¬ u.toList = [] := by rw [Lib.toList_data]; exact h0
    have he' : u.toList.isEmpty = false := by simpa using he
    have hp0 : 0 < u.size := by
      rw [← L_length]; exact List.length_pos_iff.2 h0
    have HC : Hid (NU.optPort (L u) = ((u[0] == 58) && NU.allDigits ((L u).drop 1))) := by
      show _ = _
      have := drop_cons u 0 hp0
      simp only [List.drop_zero, Nat.zero_add] at this
      rw [this, NU.optPort]; simp
    clear h0
    go_wp2
    go_loop [8] (fun i => ∃ k : Nat, 1 ≤ k ∧ k ≤ u.size ∧ i = .int .i64 (k : Int) ∧ Hid (NU.allDigits ((L u).drop 1) = NU.allDigits ((L u).drop k))) (fun i => u.size - (intOf i).toNat)
    case atStart => exact ⟨1, by omega, by omega, rfl, rfl⟩
    case round =>
      obtain ⟨k, hk1, hk2, rfl, HS⟩ := hrel
      by_cases hlt : k < u.size
      · have HI : Hid (NU.allDigits ((L u).drop k) = (NU.isDigit u[k] && NU.allDigits ((L u).drop (k + 1)))) := by
          show _ = _
          rw [drop_cons u k hlt]; simp [NU.allDigits]
        by_cases hd : NU.isDigit u[k] = true
        · have cD : ∀ W, Calls Tryz.prog 27 #[.int .u8 (u[k].toNat : Int)] W fun e w' => e = .returned (.bool true) ∧ W = w' := fun W => hd ▸ isDigit_any u[k] W
          have CD := Lib.hid cD
          have HD := Lib.hid hd
          clear cD hd
          go_wp2_with (go_at_call 27; refine (CD.out _).mono ?_; rintro e w' ⟨rfl, rfl⟩)
          go_round
          case rel => exact ⟨k + 1, by omega, by omega, by go_num, by show _ = _; rw [HS.out, HI.out, HD.out]; rfl⟩
          case measure => simp [intOf]; omega
        · have hd : NU.isDigit u[k] = false := by simpa using hd
          have cD : ∀ W, Calls Tryz.prog 27 #[.int .u8 (u[k].toNat : Int)] W fun e w' => e = .returned (.bool false) ∧ W = w' := fun W => hd ▸ isDigit_any u[k] W
          have CD := Lib.hid cD
          have HV : Hid (auV (L s) = .tuple #[.agg (auA U q t), .bool false]) := by show _ = _; rw [HV1.out, HC.out, HS.out, HI.out, hd]; simp
          clear cD hd
          go_wp2_with (go_at_call 27; refine (CD.out _).mono ?_; rintro e w' ⟨rfl, rfl⟩)
          rw [HV.out]
          refine bodyPost_ret (v := .tuple #[.agg (auA U q t), .bool false]) ?_ rfl ⟨rfl, ?_⟩
          · simp [results, Tryz.results19, go_sem, a0, a1, a2, b0, b1, b2, za, zb]
          · exact ((hk.fr.setCell (Nat.le_refl _) _).setCell (Nat.le_refl _) _).setCell (Nat.le_refl _) _
      · have HV : Hid (auV (L s) = .tuple #[.agg (auA U q t), .bool ((u[0].toNat : Int) == 58)]) := by
          show _ = _
          have := u8_eq u[0] 58
          rw [show ((58 : UInt8).toNat : Int) = 58 from rfl] at this
          rw [HV1.out, HC.out, HS.out, drop_end u k (by omega), this]; simp [NU.allDigits]
        go_wp2
        go_region
        go_wp2
        rw [HV.out]
        refine bodyPost_ret (v := .tuple #[.agg (auA U q t), .bool ((u[0].toNat : Int) == 58)]) ?_ rfl ⟨rfl, ?_⟩
        · simp [results, Tryz.results19, go_sem, a0, a1, a2, b0, b1, b2, za, zb]
        · exact (((hk.fr.setCell (Nat.le_refl _) _).setCell (Nat.le_refl _) _).setCell (Nat.le_refl _) _).drew
end Go.Proofs.YtibcegbacnjmfaaGreatDoor
namespace Go.Proofs.YtibcegbacnjmfaaGreatDoor
set_option linter.unusedVariables false
set_option linter.unusedSimpArgs false
open Go.RowKit

section
variable {w : World} {g : Nat} {hs : Bool} {sc : ByteArray} {ha : Bool} {au pa : ByteArray} {hq : Bool} {qu : ByteArray} {hf : Bool} {fr : ByteArray}
theorem refCells (h : Blk w g 23 (refA hs sc ha au pa hq qu hf fr)) :
    w.cell? ⟨g, 0, none⟩ = some (.bool hs) ∧ w.cell? ⟨g, 1, none⟩ = some (.string sc) ∧ w.cell? ⟨g, 2, none⟩ = some (.bool ha) ∧ w.cell? ⟨g, 3, none⟩ = some (.string au) ∧
    w.cell? ⟨g, 4, none⟩ = some (.string pa) ∧ w.cell? ⟨g, 5, none⟩ = some (.bool hq) ∧ w.cell? ⟨g, 6, none⟩ = some (.string qu) ∧ w.cell? ⟨g, 7, none⟩ = some (.bool hf) ∧ w.cell? ⟨g, 8, none⟩ = some (.string fr) :=
  ⟨h.cell 0, h.cell 1, h.cell 2, h.cell 3, h.cell 4, h.cell 5, h.cell 6, h.cell 7, h.cell 8⟩
end
theorem L_3a : L ⟨#[58, 64, 47]⟩ = [58, 64, 47] := rfl
theorem L_4a : L ⟨#[58, 64, 47, 63]⟩ = [58, 64, 47, 63] := rfl

set_option maxRecDepth 100000 in
set_option maxHeartbeats 2000000 in
theorem Valid_any (hs : Bool) (sc : ByteArray) (ha : Bool) (au pa : ByteArray) (hq : Bool) (qu : ByteArray) (hf : Bool) (fr : ByteArray) (w : World)
    (h1 : sc.size ≤ 35184372088832) (h2 : au.size ≤ 35184372088832) (h3 : pa.size ≤ 35184372088832) (h4 : qu.size ≤ 35184372088832) (h5 : fr.size ≤ 35184372088832) :
    Calls Tryz.prog 6 #[.agg (refA hs sc ha au pa hq qu hf fr)] w fun e w' => e = .returned (.bool (NU.validR hs (L sc) ha (L au) (L pa) (L qu) (L fr))) ∧ Fr w w' := by
  obtain ⟨S1, hS1⟩ : ∃ b, b = NU.schm (L sc) := ⟨_, rfl⟩
  obtain ⟨S2, hS2⟩ : ∃ b, b = NU.chars [58, 64, 47] true (L pa) := ⟨_, rfl⟩
  obtain ⟨S3, hS3⟩ : ∃ b, b = NU.chars [58, 64, 47, 63] true (L qu) := ⟨_, rfl⟩
  obtain ⟨S4, hS4⟩ : ∃ b, b = NU.chars [58, 64, 47, 63] true (L fr) := ⟨_, rfl⟩
  obtain ⟨V, hV⟩ : ∃ b, b = (if ha then NU.auOk (L au) && ((L pa).isEmpty || (L pa).head? == some 47) else !NU.begins (L pa) [47, 47] && (hs || decide (NU.index ((L pa).take (NU.index (L pa) [47])) [58] = NU.index (L pa) [47]))) := ⟨_, rfl⟩
  have HX : Hid (NU.validR hs (L sc) ha (L au) (L pa) (L qu) (L fr) = (!(hs && !S1) && S2 && S3 && S4 && V)) := by show _ = _; rw [NU.validR, hS1, hS2, hS3, hS4, hV]
  have C1 := Lib.hid (fun W => isScheme_any sc W h1)
  have C2 := Lib.hid (fun W => chars_any pa ⟨#[58, 64, 47]⟩ true W h3 (by show (3 : Nat) ≤ 35184372088832; omega))
  have C3 := Lib.hid (fun W => chars_any qu ⟨#[58, 64, 47, 63]⟩ true W h4 (by show (4 : Nat) ≤ 35184372088832; omega))
  have C4 := Lib.hid (fun W => chars_any fr ⟨#[58, 64, 47, 63]⟩ true W h5 (by show (4 : Nat) ≤ 35184372088832; omega))
  simp only [L_3a, L_4a] at C2 C3 C4
  rw [← hS1] at C1
  rw [← hS2] at C2
  rw [← hS3] at C3
  rw [← hS4] at C4
  rw [HX.out]
  have HV := Lib.hid hV
  clear hS1 hS2 hS3 hS4 hV HX
  have hk0 := Blk.new w 23 (refA hs sc ha au pa hq qu hf fr)
  have hfr0 : Fr w (w.alloc (refO hs sc ha au pa hq qu hf fr)) := (Fr.refl _).alloc _
  go_enter Tryz.func6, Tryz.ntmps6
  go_upto_region 1 with fail
  go_cut [31] (fun c wx => c = .bool (!(!(hs && !S1) && S2 && S3 && S4)) ∧ Fr w wx ∧ Blk wx w.heap.size 23 (refA hs sc ha au pa hq qu hf fr))
  case first =>
    cases hs
    all_goals
      go_wp2_with (first
        | (go_at_call 17; refine (C1.out _).mono ?_; rintro e w1 ⟨rfl, hf1⟩; have hk1 := Blk.below (by assumption) hf1 (Blk.lt (by assumption)); have hfr1 := Fr.trans (by assumption) hf1; clear hf1; obtain ⟨c0, c1, c2, c3, c4, c5, c6, c7, c8⟩ := refCells hk1)
        | (go_at_call_of 18 (Value.string pa); refine (C2.out _).mono ?_; rintro e w1 ⟨rfl, hf1⟩; have hk1 := Blk.below (by assumption) hf1 (Blk.lt (by assumption)); have hfr1 := Fr.trans (by assumption) hf1; clear hf1; obtain ⟨c0, c1, c2, c3, c4, c5, c6, c7, c8⟩ := refCells hk1)
        | (go_at_call_of 18 (Value.string qu); refine (C3.out _).mono ?_; rintro e w1 ⟨rfl, hf1⟩; have hk1 := Blk.below (by assumption) hf1 (Blk.lt (by assumption)); have hfr1 := Fr.trans (by assumption) hf1; clear hf1; obtain ⟨c0, c1, c2, c3, c4, c5, c6, c7, c8⟩ := refCells hk1)
        | (go_at_call_of 18 (Value.string fr); refine (C4.out _).mono ?_; rintro e w1 ⟨rfl, hf1⟩; have hk1 := Blk.below (by assumption) hf1 (Blk.lt (by assumption)); have hfr1 := Fr.trans (by assumption) hf1; clear hf1; obtain ⟨c0, c1, c2, c3, c4, c5, c6, c7, c8⟩ := refCells hk1))
      all_goals go_meet
      all_goals
        case rel => exact ⟨congrArg Value.bool (by simp_all), by assumption, by assumption⟩
  case rest =>
    obtain ⟨rfl, hfr1, hk1⟩ := hcut
    clear hk0 hfr0 C1 C2 C3 C4
    obtain ⟨c0, c1, c2, c3, c4, c5, c6, c7, c8⟩ := refCells hk1
    by_cases hx : (!(hs && !S1) && S2 && S3 && S4) = true
    · rw [hx]
      have HX := Lib.hid hx
      have hl := hk1.lt
      clear hx
      cases ha
      · have HV' : Hid (V = (!NU.begins (L pa) [47, 47] && (hs || decide (NU.index ((L pa).take (NU.index (L pa) [47])) [58] = NU.index (L pa) [47])))) := HV.out
        clear HV
        by_cases hb : NU.begins (L pa) [47, 47] = true
        · have CB := Lib.hid (fun W => begins_any pa ⟨#[47, 47]⟩ W h3 (by show (2 : Nat) ≤ 35184372088832; omega))
          rw [show L ⟨#[47, 47]⟩ = [47, 47] from rfl, hb] at CB
          have HB := Lib.hid hb
          clear hb
          go_wp2_with (go_at_call 16; refine (CB.out _).mono ?_; rintro e w' ⟨rfl, rfl⟩)
          go_ret
          exact ⟨ret_bool (by rw [HX.out, HV'.out, HB.out]; rfl), hfr1⟩
        · have hb : NU.begins (L pa) [47, 47] = false := by simpa using hb
          have CB := Lib.hid (fun W => begins_any pa ⟨#[47, 47]⟩ W h3 (by show (2 : Nat) ≤ 35184372088832; omega))
          rw [show L ⟨#[47, 47]⟩ = [47, 47] from rfl, hb] at CB
          have HB := Lib.hid hb
          obtain ⟨n, hn⟩ : ∃ n, n = NU.index (L pa) [47] := ⟨_, rfl⟩
          have hnle : n ≤ pa.size := by rw [hn, ← L_length]; exact NU.index_le _ _
          have CI := Lib.hid (fun W => index_any pa ⟨#[47]⟩ W h3 (by show (1 : Nat) ≤ 35184372088832; omega))
          rw [show L ⟨#[47]⟩ = [47] from rfl, ← hn] at CI
          obtain ⟨q, hq'⟩ : ∃ q, q = pa.extract 0 n := ⟨_, rfl⟩
          have HQ : Hid (L q = (L pa).take n) := by show _ = _; rw [hq', ext_to, L_mk]
          have hqz : q.size ≤ 35184372088832 := by rw [← L_length, HQ.out, List.length_take, L_length]; omega
          have hq2 := hq'.symm
          obtain ⟨m, hm⟩ : ∃ m, m = NU.index (L q) [58] := ⟨_, rfl⟩
          have CJ := Lib.hid (fun W => index_any q ⟨#[58]⟩ W hqz (by show (1 : Nat) ≤ 35184372088832; omega))
          rw [show L ⟨#[58]⟩ = [58] from rfl, ← hm] at CJ
          have HV2 : Hid (V = (hs || decide (m = n))) := by show _ = _; rw [HV'.out, hb, hm, HQ.out, hn]; rfl
          clear hb hn hq' hm HV'
          cases hs
          all_goals
            go_wp2_with (first
              | (go_at_call 16; refine (CB.out _).mono ?_; rintro e w' ⟨rfl, rfl⟩)
              | (go_at_call_of 15 (Value.string pa); refine (CI.out _).mono ?_; rintro e w' ⟨rfl, n1, rfl⟩)
              | (go_at_call_of 15 (Value.string q); refine (CJ.out _).mono ?_; rintro e w' ⟨rfl, n2, rfl⟩))
            go_ret
            refine ⟨ret_bool ?_, by first | exact hfr1.drewN _ | exact (hfr1.drewN _).drewN _⟩
            rw [HX.out, HV2.out]
            first | rfl | (rw [Bool.eq_iff_iff]; simp; try omega)
      · have HV' : Hid (V = (NU.auOk (L au) && ((L pa).isEmpty || (L pa).head? == some 47))) := HV.out
        clear HV
        obtain ⟨O, hO⟩ : ∃ O, O = NU.auOk (L au) := ⟨_, rfl⟩
        have CA := Lib.hid (fun W => isAuthority_any au W h2)
        unfold auV at CA
        rw [← hO] at CA HV'
        clear hO
        by_cases h0 : L pa = []
        · have he : pa.toList = [] := by rw [Lib.toList_data]; exact h0
          have HV2 : Hid (V = O) := by show _ = _; rw [HV'.out, h0]; simp
          clear h0 HV'
          cases O
          all_goals
            go_wp2_with (go_at_call 19; refine (CA.out _).mono ?_; rintro e w1 ⟨rfl, hf1⟩; have hk2 := Blk.below hk1 hf1 hk1.lt; have hfr2 := Fr.trans hfr1 hf1; have hl2 := hk2.lt; clear hf1; obtain ⟨d0, d1, d2, d3, d4, d5, d6, d7, d8⟩ := refCells hk2)
            go_ret
            exact ⟨ret_bool (by rw [HX.out, HV2.out]; rfl), hfr2.alloc _⟩
        · have he : ¬ pa.toList = [] := by rw [Lib.toList_data]; exact h0
          have he' : pa.toList.isEmpty = false := by simpa using he
          have hp0 : 0 < pa.size := by rw [← L_length]; exact List.length_pos_iff.2 h0
          have HV2 : Hid (V = (O && (pa[0] == 47))) := by
            show _ = _
            have := drop_cons pa 0 hp0
            simp only [List.drop_zero, Nat.zero_add] at this
            rw [HV'.out, this]; simp
          obtain ⟨b, hb⟩ : ∃ b, b = (pa[0] == 47) := ⟨_, rfl⟩
          have hb1 : ((pa[0].toNat : Int) == 47) = b := by rw [hb]; exact u8_eq pa[0] 47
          rw [← hb] at HV2
          clear h0 HV' hb
          cases O
          all_goals
            go_wp2_with (go_at_call 19; refine (CA.out _).mono ?_; rintro e w1 ⟨rfl, hf1⟩; have hk2 := Blk.below hk1 hf1 hk1.lt; have hfr2 := Fr.trans hfr1 hf1; have hl2 := hk2.lt; clear hf1; obtain ⟨d0, d1, d2, d3, d4, d5, d6, d7, d8⟩ := refCells hk2)
            go_ret
            exact ⟨ret_bool (by rw [HX.out, HV2.out]; rfl), hfr2.alloc _⟩
    · have hx : (!(hs && !S1) && S2 && S3 && S4) = false := by simpa using hx
      rw [hx]
      have HX := Lib.hid hx
      clear hx
      go_wp2
      go_ret
      exact ⟨ret_bool (by rw [HX.out]; rfl), hfr1⟩
end Go.Proofs.YtibcegbacnjmfaaGreatDoor
namespace Go.Proofs.YtibcegbacnjmfaaGreatDoor
set_option linter.unusedVariables false
set_option linter.unusedSimpArgs false
open Go.RowKit

/-- What the thin package's Scheme answers. -/
def ScPost (l : List UInt8) (w : World) (e : Ending) (w' : World) : Prop :=
  (NU.gsc 0 l ≠ -2 ∧ e = .returned (.tuple #[.string (mk (NU.gsS l)), .string (mk (NU.gsR l)), .bool true]) ∧ Fr w w') ∨
  (NU.gsc 0 l = -2 ∧ e = .returned (.tuple #[.string (mk []), .string (mk []), .bool false]) ∧ Fr w w')

theorem spScheme_le (l : List UInt8) : (NU.spScheme l).length ≤ l.length := by unfold NU.spScheme; split <;> simp; omega
theorem spAuth_le (l : List UInt8) : (NU.spAuth l).length ≤ l.length := by have := NU.sp1_le l; unfold NU.spAuth; split <;> simp; omega
theorem spPath_le (l : List UInt8) : (NU.spPath l).length ≤ l.length := by have := NU.sp2_le l; unfold NU.spPath; simp; omega
theorem spQuery_le (l : List UInt8) : (NU.spQuery l).length ≤ l.length := by have := NU.sp3_le l; unfold NU.spQuery; split <;> simp; omega
theorem spFrag_le (l : List UInt8) : (NU.spFrag l).length ≤ l.length := by have := NU.sp4_le l; unfold NU.spFrag; split <;> simp; omega
theorem mk_le {s : ByteArray} {l : List UInt8} (h : l.length ≤ (L s).length) (hs : s.size ≤ 35184372088832) : (mk l).size ≤ 35184372088832 := by
  rw [mk_size]; rw [L_length] at h; omega
/-- Valid of what Split has found. -/
theorem Valid_split (s : ByteArray) (w : World) (hs : s.size ≤ 35184372088832) :
    Calls Tryz.prog 6 #[refV (L s)] w fun e w' => e = .returned (.bool (NU.valid (L s))) ∧ Fr w w' := by
  have := Valid_any (NU.spS (L s)) (mk (NU.spScheme (L s))) (NU.spA (L s)) (mk (NU.spAuth (L s))) (mk (NU.spPath (L s))) (NU.spQ (L s)) (mk (NU.spQuery (L s))) (NU.spF (L s)) (mk (NU.spFrag (L s))) w
    (mk_le (spScheme_le _) hs) (mk_le (spAuth_le _) hs) (mk_le (spPath_le _) hs) (mk_le (spQuery_le _) hs) (mk_le (spFrag_le _) hs)
  exact this

end Go.Proofs.YtibcegbacnjmfaaGreatDoor
