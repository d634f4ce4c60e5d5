import Derived.Test.YtcbmfimafiolaaaW11
import Derived.Test.YtcbmfimafiolaaaP6
namespace Go.Proofs.Ytcbmfimafiolaaa
open Go.RowKit

set_option maxHeartbeats 400000 in
theorem GetScheme_any (s : ByteArray) (w : World) (hs : s.size ≤ 1099511627776) :
    Calls Try.prog 32 #[.string s] w fun e w' => GsPost (L s) w e w' := by
  go_enter Try.func32, Try.ntmps32
  go_wp2_with fail
  refine (getScheme_any s _ hs).mono ?_
  rintro e w' (⟨h, rfl, hf⟩ | ⟨h, v, hv, rfl, hf⟩)
  · have H := Lib.hid h
    clear h
    go_wp2
    go_ret3
    exact .inl ⟨H.out, rfl, hf⟩
  · obtain ⟨t, a, rfl⟩ := hv
    have H := Lib.hid h
    clear h
    go_wp2
    go_ret3
    exact .inr ⟨H.out, _, ⟨t, a, rfl⟩, rfl, hf⟩

/-- What the thin package's Scheme answers. -/
def ScPost (l : List UInt8) (w : World) (e : Ending) (w' : World) : Prop :=
  (NU.gsc 0 l ≠ -2 ∧ e = .returned (.tuple #[.string (mk (NU.gsS l)), .string (mk (NU.gsR l)), .bool true]) ∧ Fr w w') ∨
  (NU.gsc 0 l = -2 ∧ e = .returned (.tuple #[.string (mk []), .string (mk []), .bool false]) ∧ Fr w w')

set_option maxHeartbeats 400000 in
theorem Scheme_any (s : ByteArray) (w : World) (hs : s.size ≤ 1099511627776) :
    Calls Try.prog 13 #[.string s] w fun e w' => ScPost (L s) w e w' := by
  go_enter Try.func13, Try.ntmps13
  go_wp2_with fail
  refine (GetScheme_any s _ hs).mono ?_
  rintro e w' (⟨h, rfl, hf⟩ | ⟨h, v, hv, rfl, hf⟩)
  · have H := Lib.hid h
    clear h
    go_wp2
    go_quiet (fail)
    go_wp2
    go_ret3
    exact .inl ⟨H.out, rfl, hf.drewN _⟩
  · obtain ⟨t, a, rfl⟩ := hv
    have H := Lib.hid h
    clear h
    go_wp2
    go_quiet (fail)
    go_wp2
    go_ret3
    exact .inr ⟨H.out, rfl, hf.drewN _⟩

theorem spScheme_le (l : List UInt8) : (NU.spScheme l).length ≤ l.length := by unfold NU.spScheme; split <;> simp; omega
theorem spAuth_le (l : List UInt8) : (NU.spAuth l).length ≤ l.length := by have := NU.sp1_le l; unfold NU.spAuth; split <;> simp; omega
theorem spPath_le (l : List UInt8) : (NU.spPath l).length ≤ l.length := by have := NU.sp2_le l; unfold NU.spPath; simp; omega
theorem spQuery_le (l : List UInt8) : (NU.spQuery l).length ≤ l.length := by have := NU.sp3_le l; unfold NU.spQuery; split <;> simp; omega
theorem spFrag_le (l : List UInt8) : (NU.spFrag l).length ≤ l.length := by have := NU.sp4_le l; unfold NU.spFrag; split <;> simp; omega
theorem mk_le {s : ByteArray} {l : List UInt8} (h : l.length ≤ (L s).length) (hs : s.size ≤ 1099511627776) : (mk l).size ≤ 1099511627776 := by
  rw [mk_size]; rw [L_length] at h; omega
/-- Valid of what Split has found. -/
theorem Valid_split (s : ByteArray) (w : World) (hs : s.size ≤ 1099511627776) :
    Calls Try.prog 12 #[refV (L s)] w fun e w' => e = .returned (.bool (NU.valid (L s))) ∧ Fr w w' := by
  have := Valid_any (NU.spS (L s)) (mk (NU.spScheme (L s))) (NU.spA (L s)) (mk (NU.spAuth (L s))) (mk (NU.spPath (L s))) (NU.spQ (L s)) (mk (NU.spQuery (L s))) (NU.spF (L s)) (mk (NU.spFrag (L s))) w
    (mk_le (spScheme_le _) hs) (mk_le (spAuth_le _) hs) (mk_le (spPath_le _) hs) (mk_le (spQuery_le _) hs) (mk_le (spFrag_le _) hs)
  exact this

set_option maxRecDepth 100000 in
set_option maxHeartbeats 1000000 in
theorem FnScheme_yes (s : ByteArray) (w : World) (hb : s.size ≤ 2147483647) (hv : NU.valid (L s) = true) (hS : NU.spS (L s) = true) :
    Calls Try.prog 4 #[.string s] w fun e w' => e = .returned (.bool true) ∧ Fr w w' := by
  have hs : s.size ≤ 1099511627776 := by omega
  have CS := Lib.hid (fun W => Split_any s W hs)
  have CV := Lib.hid (fun W => Valid_split s W hs)
  have CG := Lib.hid (fun W => Scheme_any s W hs)
  rw [hv] at CV
  have hg := NU.scheme_yes (L s) hv hS
  obtain ⟨n, hn⟩ : ∃ n, n = NU.spI (L s) := ⟨_, rfl⟩
  have hn1 : n < s.size := by
    have := hS; unfold NU.spS at this; rw [← hn, L_length] at this; simp at this; omega
  obtain ⟨sc, hsc⟩ : ∃ sc, sc = mk (NU.spScheme (L s)) := ⟨_, rfl⟩
  have hscz : sc.size = n := by rw [hsc, NU.spScheme, if_pos hS, ← hn]; exact size_take _ _ (by omega)
  obtain ⟨r, hr⟩ : ∃ r, r = s.extract (n + 1) s.size := ⟨_, rfl⟩
  have CG' : ∀ W, Calls Try.prog 13 #[.string s] W fun e w' => e = .returned (.tuple #[.string sc, .string r, .bool true]) ∧ Fr W w' := fun W => by
    refine (CG.out W).mono ?_
    rintro e w' (⟨h, he, hf⟩ | ⟨h, he, hf⟩)
    · refine ⟨?_, hf⟩
      rw [he, NU.gsS, NU.gsR, hg, if_pos (by omega), if_pos (by omega), Int.toNat_natCast, hsc, NU.spScheme, if_pos hS, hr, ext_from, ← hn]
    · omega
  clear CG
  have CG := Lib.hid CG'
  have HS := Lib.hid hS
  have HC : Hid (mk (NU.spScheme (L s)) = sc) := hsc.symm
  have hr1 : s.extract (sc.size + 1) s.size = r := by rw [hscz, hr]
  have hn2 : sc.size + 1 ≤ s.size := by omega
  clear CG' hg hsc hscz hr hS hn hn1 hv
  go_enter Try.func4, Try.ntmps4
  go_wp2_with (first
    | (go_at_call 11; refine (CS.out _).mono ?_; rintro e w1 ⟨rfl, hf1⟩)
    | (go_at_call 12; refine (CV.out _).mono ?_; rintro e w2 ⟨rfl, hf2⟩; have hk2 := Blk.below (Blk.new w1 24 _) hf2 (by simp); have hfr2 := ((hf1.alloc _).trans hf2); clear hf2)
    | (go_at_call 13; refine (CG.out _).mono ?_; rintro e w3 ⟨rfl, hf3⟩; have hk3 := Blk.below hk2 hf3 hk2.lt; have hfr3 := hfr2.trans hf3; clear hf3; obtain ⟨c0, c1, c2, c3, c4, c5, c6, c7, c8⟩ := refCells hk3; rw [HS.out] at c0; try (rw [HC.out] at c1)))
  go_ret
  exact ⟨rfl, hfr3⟩

set_option maxRecDepth 100000 in
set_option maxHeartbeats 1000000 in
theorem FnScheme_no (s : ByteArray) (w : World) (hb : s.size ≤ 2147483647) (hv : NU.valid (L s) = true) (hS : NU.spS (L s) = false) :
    Calls Try.prog 4 #[.string s] w fun e w' => e = .returned (.bool true) ∧ Fr w w' := by
  have hs : s.size ≤ 1099511627776 := by omega
  have CS := Lib.hid (fun W => Split_any s W hs)
  have CV := Lib.hid (fun W => Valid_split s W hs)
  have CG := Lib.hid (fun W => Scheme_any s W hs)
  rw [hv] at CV
  have hg := NU.scheme_no (L s) hv hS
  have CG' : ∀ W, Calls Try.prog 13 #[.string s] W fun e w' => e = .returned (.tuple #[.string ⟨#[]⟩, .string s, .bool true]) ∧ Fr W w' := fun W => by
    refine (CG.out W).mono ?_
    rintro e w' (⟨h, he, hf⟩ | ⟨h, he, hf⟩)
    · refine ⟨?_, hf⟩
      rw [he, NU.gsS, NU.gsR, hg, if_neg (by omega), if_neg (by omega), mk_L]; rfl
    · omega
  clear CG
  have CG := Lib.hid CG'
  have HS := Lib.hid hS
  have HC : Hid (mk (NU.spScheme (L s)) = mk (NU.spScheme (L s))) := rfl
  clear CG' hg hS hv
  go_enter Try.func4, Try.ntmps4
  go_wp2_with (first
    | (go_at_call 11; refine (CS.out _).mono ?_; rintro e w1 ⟨rfl, hf1⟩)
    | (go_at_call 12; refine (CV.out _).mono ?_; rintro e w2 ⟨rfl, hf2⟩; have hk2 := Blk.below (Blk.new w1 24 _) hf2 (by simp); have hfr2 := ((hf1.alloc _).trans hf2); clear hf2)
    | (go_at_call 13; refine (CG.out _).mono ?_; rintro e w3 ⟨rfl, hf3⟩; have hk3 := Blk.below hk2 hf3 hk2.lt; have hfr3 := hfr2.trans hf3; clear hf3; obtain ⟨c0, c1, c2, c3, c4, c5, c6, c7, c8⟩ := refCells hk3; rw [HS.out] at c0; try (rw [HC.out] at c1)))
  go_ret
  exact ⟨rfl, hfr3⟩

set_option maxRecDepth 100000 in
set_option maxHeartbeats 1000000 in
theorem FnScheme_any (s : ByteArray) (w : World) :
    Calls Try.prog 4 #[.string s] w fun e w' => e = .returned (.bool true) ∧ Fr w w' := by
  by_cases hb : s.size ≤ 2147483647
  · have hs : s.size ≤ 1099511627776 := by omega
    have CS := Lib.hid (fun W => Split_any s W hs)
    have CV := Lib.hid (fun W => Valid_split s W hs)
    by_cases hv : NU.valid (L s) = true
    · cases hS : NU.spS (L s)
      · exact FnScheme_no s w hb hv hS
      · exact FnScheme_yes s w hb hv hS
    · have hv : NU.valid (L s) = false := by simpa using hv
      rw [hv] at CV
      clear hv
      go_enter Try.func4, Try.ntmps4
      go_wp2_with (first
        | (go_at_call 11; refine (CS.out _).mono ?_; rintro e w1 ⟨rfl, hf1⟩)
        | (go_at_call 12; refine (CV.out _).mono ?_; rintro e w2 ⟨rfl, hf2⟩))
      go_ret
      exact ⟨rfl, (hf1.alloc _).trans hf2⟩
  · have hb : 2147483647 < (s.size : Int) := by omega
    go_enter Try.func4, Try.ntmps4
    go_wp2
    go_ret
    exact ⟨rfl, Fr.refl _⟩
end Go.Proofs.Ytcbmfimafiolaaa
