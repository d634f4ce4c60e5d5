import Derived.Test.YtcbmfimafiolaaaW9
import Derived.Test.YtcbmfimafiolaaaP5
import Derived.Test.YtcbmfimafiolaaaBlk
namespace Go.Proofs.Ytcbmfimafiolaaa
open Go.RowKit

abbrev auA (h : Bool) (u v : ByteArray) : Array Value := #[.bool h, .string u, .string v]
abbrev auO (h : Bool) (u v : ByteArray) : Obj := .cells (auA h u v) 44

/-- The two blocks of an authority: the result's, and the local one. -/
structure AuW (w wx : World) (h : Bool) (u v : ByteArray) : Prop where
  fr : Fr w wx
  a : Blk wx w.heap.size 44 (auA false ⟨#[]⟩ ⟨#[]⟩)
  b : Blk wx (w.heap.size + 1) 44 (auA h u v)

theorem AuW.made (w : World) (h : Bool) (u v : ByteArray) (n : Nat) : AuW w (((w.alloc (auO false ⟨#[]⟩ ⟨#[]⟩)).alloc (auO h u v)).drewN n) h u v where
  fr := (((Fr.refl _).alloc _).alloc _).drewN _
  a := ((Blk.new _ _ _).alloc _).drewN _
  b := by
    have := (Blk.new (w.alloc (auO false ⟨#[]⟩ ⟨#[]⟩)) 44 (auA h u v)).drewN n
    simpa using this
theorem AuW.step {w wx wy : World} {h : Bool} {u v : ByteArray} (k : AuW w wx h u v) (f : Fr wx wy) : AuW w wy h u v :=
  ⟨k.fr.trans f, k.a.below f k.a.lt, k.b.below f k.b.lt⟩
theorem AuW.drewN {w wx : World} {h : Bool} {u v : ByteArray} (k : AuW w wx h u v) (n : Nat) : AuW w (wx.drewN n) h u v := k.step ((Fr.refl _).drewN n)
theorem AuW.set2 {w wx : World} {h : Bool} {u v : ByteArray} (k : AuW w wx h u v) (z : ByteArray) : AuW w (wx.setCell ⟨w.heap.size + 1, 2, none⟩ (.string z)) h u z :=
  ⟨k.fr.setCell (by simp) _, k.a.far (by simp) _, k.b.set_ 2 _⟩
theorem AuW.of_region {w : World} {n : Nat} {p : ByteArray} :
    AuW w (((((w.alloc (auO false ⟨#[]⟩ ⟨#[]⟩)).alloc (auO false ⟨#[]⟩ ⟨#[]⟩)).drewN n).setCell ⟨w.heap.size + 1, 0, none⟩ (.bool true)).setCell ⟨w.heap.size + 1, 1, none⟩ (.string p)) true p ⟨#[]⟩ :=
  ⟨((AuW.made w false ⟨#[]⟩ ⟨#[]⟩ n).fr.setCell (by simp) _).setCell (by simp) _, ((AuW.made w false ⟨#[]⟩ ⟨#[]⟩ n).a.far (by simp) _).far (by simp) _, ((AuW.made w false ⟨#[]⟩ ⟨#[]⟩ n).b.set_ 0 _).set_ 1 _⟩
theorem AuW.facts {w wx : World} {h : Bool} {u v : ByteArray} (k : AuW w wx h u v) :
    wx.cell? ⟨w.heap.size, 0, none⟩ = some (.bool false) ∧ wx.cell? ⟨w.heap.size, 1, none⟩ = some (.string ⟨#[]⟩) ∧ wx.cell? ⟨w.heap.size, 2, none⟩ = some (.string ⟨#[]⟩) ∧
    wx.cell? ⟨w.heap.size + 1, 0, none⟩ = some (.bool h) ∧ wx.cell? ⟨w.heap.size + 1, 1, none⟩ = some (.string u) ∧ wx.cell? ⟨w.heap.size + 1, 2, none⟩ = some (.string v) ∧
    (∀ i, wx.frozen? ⟨w.heap.size, i, none⟩ = false) ∧ (∀ i, wx.frozen? ⟨w.heap.size + 1, i, none⟩ = false) :=
  ⟨k.a.cell 0, k.a.cell 1, k.a.cell 2, k.b.cell 0, k.b.cell 1, k.b.cell 2, k.a.frozen, k.b.frozen⟩
/-- isAuthority's answer. -/
abbrev auV (l : List UInt8) : Value := .tuple #[.agg (auA (NU.auU l) (mk (NU.auUser l)) (mk (NU.auHost l))), .bool (NU.auOk l)]

set_option maxRecDepth 100000 in
set_option maxHeartbeats 2000000 in
theorem isAuthority_any (s : ByteArray) (w : World) (hs : s.size ≤ 1099511627776) :
    Calls Try.prog 31 #[.string s] w fun e w' => e = .returned (auV (L s)) ∧ Fr w w' := by
  obtain ⟨i, hi⟩ : ∃ i, i = NU.auI (L s) := ⟨_, rfl⟩
  have hile : i ≤ s.size := by rw [hi, ← L_length]; exact NU.index_le _ _
  have cI : ∀ W, Calls Try.prog 27 #[.string s, .string ⟨#[64]⟩] W fun e w' => e = .returned (.int .i64 (i : Nat)) ∧ ∃ n, w' = W.drewN n := fun W => hi ▸ index_any s ⟨#[64]⟩ W hs (by show (1 : Nat) ≤ 1099511627776; omega)
  have CI := Lib.hid cI
  have HI := Lib.hid hi
  clear cI hi
  go_enter Try.func31, Try.ntmps31
  go_upto_if 14 with (go_at_call 27; refine (CI.out _).mono ?_; rintro e w' ⟨rfl, n1, rfl⟩)
  go_cut [0] (fun c wx => NU.auUok (L s) = true ∧ c = .string (mk (NU.auRest (L s))) ∧ AuW w wx (NU.auU (L s)) (mk (NU.auUser (L s))) ⟨#[]⟩)
  case first =>
    by_cases hlt : i < s.size
    · have HU : Hid (NU.auU (L s) = true) := by show _ = _; rw [NU.auU, ← HI.out, L_length]; simpa using hlt
      have HE : Hid (mk (NU.auUser (L s)) = s.extract 0 i ∧ mk (NU.auRest (L s)) = s.extract (i + 1) s.size) := by
        show _ ∧ _; rw [NU.auUser, NU.auRest, if_pos HU.out, if_pos HU.out, ext_to, ext_from, ← HI.out]; exact ⟨rfl, rfl⟩
      have h2 : i + 1 ≤ s.size := hlt
      obtain ⟨p, hp⟩ : ∃ p, p = s.extract 0 i := ⟨_, rfl⟩
      have hpz : p.size ≤ 1099511627776 := by rw [hp, ext_to, size_take _ _ hile]; omega
      have HP : Hid (NU.chars [58] true (L p) = NU.auUok (L s)) := by show _ = _; rw [NU.auUok, HU.out, hp, ← HE.out.1, L_mk]; simp
      have HE1 : Hid (p = mk (NU.auUser (L s))) := by show _ = _; rw [hp, HE.out.1]
      have hp' := hp.symm
      have cC : ∀ W, Calls Try.prog 30 #[.string p, .string ⟨#[58]⟩, .bool true] W fun e w' => e = .returned (.bool (NU.auUok (L s))) ∧ Fr W w' := fun W => by
        have := chars_any p ⟨#[58]⟩ true W hpz (by show (1 : Nat) ≤ 1099511627776; omega)
        rw [show L ⟨#[58]⟩ = [58] from rfl, HP.out] at this
        exact this
      have CC := Lib.hid cC
      clear hp cC
      by_cases hok : NU.auUok (L s) = true
      · rw [hok] at CC
        have HOK := Lib.hid hok
        clear hok
        go_wp2
        go_region
        go_wp2_with (go_at_call 30; refine (CC.out _).mono ?_; rintro e w1 ⟨rfl, hf1⟩; have hk1 := AuW.step AuW.of_region hf1; clear hf1)
        go_meet
        case rel => exact ⟨HOK.out, by rw [HE.out.2], by rw [HU.out, ← HE1.out]; exact hk1⟩
      · have hok : NU.auUok (L s) = false := by simpa using hok
        rw [hok] at CC
        have HOK : Hid (auV (L s) = .tuple #[.agg (auA true p ⟨#[]⟩), .bool false]) := by
          show _ = _; rw [auV, NU.auOk, NU.auHost, hok, HU.out, ← HE1.out]; rfl
        clear hok
        go_wp2
        go_region
        go_wp2_with (go_at_call 30; refine (CC.out _).mono ?_; rintro e w1 ⟨rfl, hf1⟩; have hk1 := AuW.step AuW.of_region hf1; obtain ⟨a0, a1, a2, b0, b1, b2, za, zb⟩ := hk1.facts; clear hf1)
        rw [HOK.out]
        refine bodyPost_ret (v := .tuple #[.agg (auA true p ⟨#[]⟩), .bool false]) ?_ rfl ⟨rfl, ?_⟩
        · simp [results, Try.results31, go_sem, a0, a1, a2, b0, b1, b2, za, zb]
        · exact ((hk1.fr.setCell (Nat.le_refl _) _).setCell (Nat.le_refl _) _).setCell (Nat.le_refl _) _
    · have HU : Hid (NU.auU (L s) = false) := by show _ = _; rw [NU.auU, ← HI.out, L_length]; simpa using hlt
      have HE : Hid (mk (NU.auUser (L s)) = ⟨#[]⟩ ∧ NU.auRest (L s) = L s ∧ NU.auUok (L s) = true) := by
        show _ ∧ _ ∧ _; rw [NU.auUser, NU.auRest, NU.auUok, HU.out]; exact ⟨rfl, rfl, rfl⟩
      go_wp2
      go_meet
      case rel => exact ⟨HE.out.2.2, by rw [HE.out.2.1, mk_L], by rw [HU.out, HE.out.1]; exact AuW.made _ _ _ _ _⟩
  case rest =>
  obtain ⟨hok, rfl, hk⟩ := hcut
  obtain ⟨a0, a1, a2, b0, b1, b2, za, zb⟩ := hk.facts
  obtain ⟨t, ht⟩ : ∃ t, t = mk (NU.auRest (L s)) := ⟨_, rfl⟩
  have HT : Hid (L t = NU.auRest (L s)) := by show _ = _; rw [ht, L_mk]
  have htz : t.size ≤ 1099511627776 := by have := NU.auRest_le (L s); rw [← L_length, HT.out]; rw [L_length] at this; omega
  obtain ⟨U, hU⟩ : ∃ U, U = NU.auU (L s) := ⟨_, rfl⟩
  obtain ⟨q, hq⟩ : ∃ q, q = mk (NU.auUser (L s)) := ⟨_, rfl⟩
  have HV0 : Hid (auV (L s) = .tuple #[.agg (auA U q t), .bool (NU.auHok (L t) && NU.optPort (NU.auS (L t)))]) := by
    show _ = _; rw [auV, NU.auOk, NU.auHost, hok, if_pos rfl, Bool.true_and, hU, hq, ht, L_mk]
  rw [← ht]
  rw [← hU, ← hq] at hk
  rw [← hU] at b0
  rw [← hq] at b1
  clear CI HI hile hok ht hU hq
  have hk2 := hk.set2 t
  have cB : ∀ W, Calls Try.prog 28 #[.string t, .string ⟨#[91]⟩] W fun e w' => e = .returned (.bool (NU.begins (L t) [91])) ∧ W = w' := fun W =>
    begins_any t ⟨#[91]⟩ W htz (by show (1 : Nat) ≤ 1099511627776; omega)
  have CB := Lib.hid cB
  clear cB
  go_upto_if 32 with (go_at_call 28; refine (CB.out _).mono ?_; rintro e w' ⟨rfl, rfl⟩)
  clear hk a0 a1 a2 b0 b1 b2 za zb
  generalize wc.setCell _ _ = wy at hk2 ⊢
  obtain ⟨a0, a1, a2, b0, b1, b2, za, zb⟩ := hk2.facts
  go_cut [0] (fun c wx => NU.auHok (L t) = true ∧ c = .string (mk (NU.auS (L t))) ∧ AuW w wx U q t)
  case first =>
    by_cases hb : NU.begins (L t) [91] = true
    · have hb' := hb
      rw [NU.begins, List.isPrefixOf_iff_prefix] at hb'
      obtain ⟨r, hr⟩ := hb'
      obtain ⟨n, hn⟩ : ∃ n, n = NU.index (L t) [93] := ⟨_, rfl⟩
      have hn1 : 1 ≤ n := by rw [hn, ← hr]; simp [NU.index_cons, NU.mem]
      have hnle : n ≤ t.size := by rw [hn, ← L_length]; exact NU.index_le _ _
      have cI : ∀ W, Calls Try.prog 27 #[.string t, .string ⟨#[93]⟩] W fun e w' => e = .returned (.int .i64 (n : Nat)) ∧ ∃ n, w' = W.drewN n := fun W => hn ▸ index_any t ⟨#[93]⟩ W htz (by show (1 : Nat) ≤ 1099511627776; omega)
      have CI := Lib.hid cI
      have HH : Hid (NU.auHok (L t) = (decide (n < t.size) && NU.isIPv6 (((L t).take n).drop 1))) := by show _ = _; rw [NU.auHok, if_pos hb, ← hn, L_length]
      have HS : Hid (mk (NU.auS (L t)) = t.extract (n + 1) t.size) := by show _ = _; rw [NU.auS, if_pos hb, ← hn, ext_from]
      have HB := Lib.hid hb
      rw [hb]
      clear hb hr r cI hn
      by_cases hlt : n < t.size
      · have hc1 : ((n : Int) == (t.size : Int)) = false := beq_eq_false_iff_ne.2 (by omega)
        have hc2 : (n == t.size) = false := beq_eq_false_iff_ne.2 (by omega)
        have hlt' : n + 1 ≤ t.size := hlt
        obtain ⟨p, hp⟩ : ∃ p, p = t.extract 1 n := ⟨_, rfl⟩
        have HP : Hid (L p = ((L t).take n).drop 1) := by show _ = _; rw [hp, ext_mk, L_mk, List.drop_take]
        have hpz : p.size ≤ 1099511627776 := by rw [← L_length, HP.out, List.length_drop, List.length_take, L_length]; omega
        have hp' := hp.symm
        have HH' : Hid (NU.auHok (L t) = NU.isIPv6 (L p)) := by show _ = _; rw [HH.out, HP.out, decide_eq_true hlt, Bool.true_and]
        have C6 := Lib.hid (fun W => isIPv6_any p W hpz)
        clear hp hlt HH
        by_cases h6 : NU.isIPv6 (L p) = true
        · rw [h6] at HH' C6
          clear h6
          go_wp2_with (first | (go_at_call 27; refine (CI.out _).mono ?_; rintro e w' ⟨rfl, n2, rfl⟩) | (go_at_call 37; refine (C6.out _).mono ?_; rintro e w' ⟨rfl, n3, rfl⟩))
          go_meet
          case rel => exact ⟨HH'.out, by rw [HS.out], by first | exact hk2.drewN _ | exact (hk2.drewN _).drewN _⟩
        · have h6 : NU.isIPv6 (L p) = false := by simpa using h6
          rw [h6] at HH' C6
          have HV : Hid (auV (L s) = .tuple #[.agg (auA U q t), .bool false]) := by show _ = _; rw [HV0.out, HH'.out]; rfl
          clear h6
          go_wp2_with (first | (go_at_call 27; refine (CI.out _).mono ?_; rintro e w' ⟨rfl, n2, rfl⟩) | (go_at_call 37; refine (C6.out _).mono ?_; rintro e w' ⟨rfl, n3, rfl⟩))
          rw [HV.out]
          refine bodyPost_ret (v := .tuple #[.agg (auA U q t), .bool false]) ?_ rfl ⟨rfl, ?_⟩
          · simp [results, Try.results31, go_sem, a0, a1, a2, b0, b1, b2, za, zb]
          · exact (((hk2.drewN _).fr.setCell (Nat.le_refl _) _).setCell (Nat.le_refl _) _).setCell (Nat.le_refl _) _
      · have hc1 : ((n : Int) == (t.size : Int)) = true := beq_iff_eq.2 (by omega)
        have hc2 : (n == t.size) = true := beq_iff_eq.2 (by omega)
        have HV : Hid (auV (L s) = .tuple #[.agg (auA U q t), .bool false]) := by show _ = _; rw [HV0.out, HH.out, decide_eq_false hlt]; rfl
        clear hlt HH
        go_wp2_with (first | (go_at_call 27; refine (CI.out _).mono ?_; rintro e w' ⟨rfl, n2, rfl⟩))
        rw [HV.out]
        refine bodyPost_ret (v := .tuple #[.agg (auA U q t), .bool false]) ?_ rfl ⟨rfl, ?_⟩
        · simp [results, Try.results31, go_sem, a0, a1, a2, b0, b1, b2, za, zb]
        · exact (((hk2.drewN _).fr.setCell (Nat.le_refl _) _).setCell (Nat.le_refl _) _).setCell (Nat.le_refl _) _
    · have hb : NU.begins (L t) [91] = false := by simpa using hb
      obtain ⟨n, hn⟩ : ∃ n, n = NU.index (L t) [58] := ⟨_, rfl⟩
      have hnle : n ≤ t.size := by rw [hn, ← L_length]; exact NU.index_le _ _
      have cI : ∀ W, Calls Try.prog 27 #[.string t, .string ⟨#[58]⟩] W fun e w' => e = .returned (.int .i64 (n : Nat)) ∧ ∃ n, w' = W.drewN n := fun W => hn ▸ index_any t ⟨#[58]⟩ W htz (by show (1 : Nat) ≤ 1099511627776; omega)
      have CI := Lib.hid cI
      obtain ⟨p, hp⟩ : ∃ p, p = t.extract 0 n := ⟨_, rfl⟩
      have HP : Hid (L p = (L t).take n) := by show _ = _; rw [hp, ext_to, L_mk]
      have hpz : p.size ≤ 1099511627776 := by rw [← L_length, HP.out, List.length_take, L_length]; omega
      have hp' := hp.symm
      have HH : Hid (NU.auHok (L t) = NU.chars [] false (L p)) := by show _ = _; rw [NU.auHok, hb, ← hn, HP.out]; rfl
      have HS : Hid (mk (NU.auS (L t)) = t.extract n t.size) := by show _ = _; rw [NU.auS, hb, ← hn, ext_from]; rfl
      have cC : ∀ W, Calls Try.prog 30 #[.string p, .string ⟨#[]⟩, .bool false] W fun e w' => e = .returned (.bool (NU.auHok (L t))) ∧ Fr W w' := fun W => by
        have := chars_any p ⟨#[]⟩ false W hpz (by show (0 : Nat) ≤ 1099511627776; omega)
        rw [show L ⟨#[]⟩ = [] from rfl, ← HH.out] at this
        exact this
      have CC := Lib.hid cC
      rw [hb]
      clear hb cI hn hp cC
      by_cases hh : NU.auHok (L t) = true
      · rw [hh] at CC
        have HHH := Lib.hid hh
        clear hh
        go_wp2_with (first | (go_at_call 27; refine (CI.out _).mono ?_; rintro e w' ⟨rfl, n2, rfl⟩) | (go_at_call 30; refine (CC.out _).mono ?_; rintro e w1 ⟨rfl, hf1⟩; have hk3 := AuW.step (hk2.drewN _) hf1; clear hf1))
        go_meet
        case rel => exact ⟨HHH.out, by rw [HS.out], hk3⟩
      · have hh : NU.auHok (L t) = false := by simpa using hh
        rw [hh] at CC
        have HV : Hid (auV (L s) = .tuple #[.agg (auA U q t), .bool false]) := by show _ = _; rw [HV0.out, hh]; rfl
        clear hh
        go_wp2_with (first | (go_at_call 27; refine (CI.out _).mono ?_; rintro e w' ⟨rfl, n2, rfl⟩) | (go_at_call 30; refine (CC.out _).mono ?_; rintro e w1 ⟨rfl, hf1⟩; have hk3 := AuW.step (hk2.drewN _) hf1; clear hf1; clear a0 a1 a2 b0 b1 b2 za zb; obtain ⟨a0, a1, a2, b0, b1, b2, za, zb⟩ := hk3.facts))
        rw [HV.out]
        refine bodyPost_ret (v := .tuple #[.agg (auA U q t), .bool false]) ?_ rfl ⟨rfl, ?_⟩
        · simp [results, Try.results31, go_sem, a0, a1, a2, b0, b1, b2, za, zb]
        · exact ((hk3.fr.setCell (Nat.le_refl _) _).setCell (Nat.le_refl _) _).setCell (Nat.le_refl _) _
  case rest =>
  obtain ⟨hh, rfl, hk⟩ := hcut
  clear a0 a1 a2 b0 b1 b2 za zb hk2
  obtain ⟨a0, a1, a2, b0, b1, b2, za, zb⟩ := hk.facts
  obtain ⟨u, hu⟩ : ∃ u, u = mk (NU.auS (L t)) := ⟨_, rfl⟩
  have HU : Hid (L u = NU.auS (L t)) := by show _ = _; rw [hu, L_mk]
  have huz : u.size ≤ 1099511627776 := by have := NU.auS_le (L t); rw [← L_length, HU.out]; rw [L_length] at this; omega
  have HV1 : Hid (auV (L s) = .tuple #[.agg (auA U q t), .bool (NU.optPort (L u))]) := by show _ = _; rw [HV0.out, hh, HU.out]; rfl
  rw [← hu]
  clear hu hh HV0 CB
  by_cases h0 : L u = []
  · have he : u.toList = [] := by rw [Lib.toList_data]; exact h0
    have HV : Hid (auV (L s) = .tuple #[.agg (auA U q t), .bool true]) := by show _ = _; rw [HV1.out, h0]; rfl
    clear h0
    go_wp2
    rw [HV.out]
    refine bodyPost_ret (v := .tuple #[.agg (auA U q t), .bool true]) ?_ rfl ⟨rfl, ?_⟩
    · simp [results, Try.results31, go_sem, a0, a1, a2, b0, b1, b2, za, zb]
    · exact ((hk.fr.setCell (Nat.le_refl _) _).setCell (Nat.le_refl _) _).setCell (Nat.le_refl _) _
  · have he : ¬ u.toList = [] := by rw [Lib.toList_data]; exact h0
    have he' : u.toList.isEmpty = false := by simpa using he
    have hp0 : 0 < u.size := by
      rw [← L_length]; exact List.length_pos_iff.2 h0
    have HC : Hid (NU.optPort (L u) = ((u[0] == 58) && NU.allDigits ((L u).drop 1))) := by
      show _ = _
      have := drop_cons u 0 hp0
      simp only [List.drop_zero, Nat.zero_add] at this
      rw [this, NU.optPort]; simp
    clear h0
    go_wp2
    go_loop [8] (fun i => ∃ k : Nat, 1 ≤ k ∧ k ≤ u.size ∧ i = .int .i64 (k : Int) ∧ Hid (NU.allDigits ((L u).drop 1) = NU.allDigits ((L u).drop k))) (fun i => u.size - (intOf i).toNat)
    case atStart => exact ⟨1, by omega, by omega, rfl, rfl⟩
    case round =>
      obtain ⟨k, hk1, hk2, rfl, HS⟩ := hrel
      by_cases hlt : k < u.size
      · have HI : Hid (NU.allDigits ((L u).drop k) = (NU.isDigit u[k] && NU.allDigits ((L u).drop (k + 1)))) := by
          show _ = _
          rw [drop_cons u k hlt]; simp [NU.allDigits]
        by_cases hd : NU.isDigit u[k] = true
        · have cD : ∀ W, Calls Try.prog 26 #[.int .u8 (u[k].toNat : Int)] W fun e w' => e = .returned (.bool true) ∧ W = w' := fun W => hd ▸ isDigit_any u[k] W
          have CD := Lib.hid cD
          have HD := Lib.hid hd
          clear cD hd
          go_wp2_with (go_at_call 26; refine (CD.out _).mono ?_; rintro e w' ⟨rfl, rfl⟩)
          go_round
          case rel => exact ⟨k + 1, by omega, by omega, by go_num, by show _ = _; rw [HS.out, HI.out, HD.out]; rfl⟩
          case measure => simp [intOf]; omega
        · have hd : NU.isDigit u[k] = false := by simpa using hd
          have cD : ∀ W, Calls Try.prog 26 #[.int .u8 (u[k].toNat : Int)] W fun e w' => e = .returned (.bool false) ∧ W = w' := fun W => hd ▸ isDigit_any u[k] W
          have CD := Lib.hid cD
          have HV : Hid (auV (L s) = .tuple #[.agg (auA U q t), .bool false]) := by show _ = _; rw [HV1.out, HC.out, HS.out, HI.out, hd]; simp
          clear cD hd
          go_wp2_with (go_at_call 26; refine (CD.out _).mono ?_; rintro e w' ⟨rfl, rfl⟩)
          rw [HV.out]
          refine bodyPost_ret (v := .tuple #[.agg (auA U q t), .bool false]) ?_ rfl ⟨rfl, ?_⟩
          · simp [results, Try.results31, go_sem, a0, a1, a2, b0, b1, b2, za, zb]
          · exact ((hk.fr.setCell (Nat.le_refl _) _).setCell (Nat.le_refl _) _).setCell (Nat.le_refl _) _
      · have HV : Hid (auV (L s) = .tuple #[.agg (auA U q t), .bool ((u[0].toNat : Int) == 58)]) := by
          show _ = _
          have := u8_eq u[0] 58
          rw [show ((58 : UInt8).toNat : Int) = 58 from rfl] at this
          rw [HV1.out, HC.out, HS.out, drop_end u k (by omega), this]; simp [NU.allDigits]
        go_wp2
        go_region
        go_wp2
        rw [HV.out]
        refine bodyPost_ret (v := .tuple #[.agg (auA U q t), .bool ((u[0].toNat : Int) == 58)]) ?_ rfl ⟨rfl, ?_⟩
        · simp [results, Try.results31, go_sem, a0, a1, a2, b0, b1, b2, za, zb]
        · exact (((hk.fr.setCell (Nat.le_refl _) _).setCell (Nat.le_refl _) _).setCell (Nat.le_refl _) _).drew
end Go.Proofs.Ytcbmfimafiolaaa
