import Derived.Test.YtcbmfimafiolaaaW19
import Derived.Test.YtcbmfimafiolaaaW7
import Derived.Deep.RegionWith
namespace Go.Proofs.Ytcbmfimafiolaaa
set_option linter.unusedVariables false
set_option linter.unusedSimpArgs false
open Go.RowKit

theorem IsIPv6_any (s : ByteArray) (w : World) (hs : s.size ≤ 1099511627776) :
    Calls Try.prog 19 #[.string s] w fun e w' => e = .returned (.bool (NU.isIPv6 (L s))) ∧ ∃ n, w' = w.drewN n := by
  have C := Lib.hid (fun W => isIPv6_any s W hs)
  go_enter Try.func19, Try.ntmps19
  go_wp2_with (go_at_call 37; refine (C.out _).mono ?_; rintro e w1 ⟨rfl, n1, rfl⟩)
  go_ret
  exact ⟨rfl, _, rfl⟩
theorem IsName_any (s : ByteArray) (w : World) (hs : s.size ≤ 1099511627776) :
    Calls Try.prog 22 #[.string s] w fun e w' => e = .returned (.bool (NU.chars [] false (L s))) ∧ Fr w w' := by
  have C := Lib.hid (fun W => chars_any s ⟨#[]⟩ false W hs (by show (0 : Nat) ≤ 1099511627776; omega))
  go_enter Try.func22, Try.ntmps22
  go_wp2_with (go_at_call 30; refine (C.out _).mono ?_; rintro e w1 ⟨rfl, hf1⟩)
  go_ret
  exact ⟨rfl, by assumption⟩

abbrev hostA (u : ByteArray) : Array Value :=
  #[.string ⟨#[]⟩, .string ⟨#[]⟩, .bool false, .string ⟨#[]⟩, .bool false, .string ⟨#[]⟩, .string u, .string ⟨#[]⟩, .string ⟨#[]⟩, .bool false, .string ⟨#[]⟩, .string ⟨#[]⟩, .string ⟨#[]⟩, .bool false, .string ⟨#[]⟩, .string ⟨#[]⟩]
theorem hostnameC (u : ByteArray) (r : List UInt8) (hu : u.size ≤ 1099511627776) (hr : NU.shH (L u) = r) (w : World) :
    Calls Try.prog 20 #[.agg (hostA u)] w fun e w' => e = .returned (.string (mk r)) ∧ Fr w w' := by
  subst hr; exact implHostname_any _ _ _ _ _ _ _ _ _ _ _ _ _ _ _ _ w hu
theorem portC (u : ByteArray) (r : List UInt8) (hu : u.size ≤ 1099511627776) (hr : NU.shP (L u) = r) (w : World) :
    Calls Try.prog 21 #[.agg (hostA u)] w fun e w' => e = .returned (.string (mk r)) ∧ Fr w w' := by
  subst hr; exact implPort_any _ _ _ _ _ _ _ _ _ _ _ _ _ _ _ _ w hu
theorem hostCells {w : World} {g : Nat} {u : ByteArray} (h : Blk w g 35 (hostA u)) :
    w.cell? ⟨g, 0, none⟩ = some (.string ⟨#[]⟩) ∧ w.cell? ⟨g, 1, none⟩ = some (.string ⟨#[]⟩) ∧ w.cell? ⟨g, 2, none⟩ = some (.bool false) ∧ w.cell? ⟨g, 3, none⟩ = some (.string ⟨#[]⟩) ∧
    w.cell? ⟨g, 4, none⟩ = some (.bool false) ∧ w.cell? ⟨g, 5, none⟩ = some (.string ⟨#[]⟩) ∧ w.cell? ⟨g, 6, none⟩ = some (.string u) ∧ w.cell? ⟨g, 7, none⟩ = some (.string ⟨#[]⟩) ∧
    w.cell? ⟨g, 8, none⟩ = some (.string ⟨#[]⟩) ∧ w.cell? ⟨g, 9, none⟩ = some (.bool false) ∧ w.cell? ⟨g, 10, none⟩ = some (.string ⟨#[]⟩) ∧ w.cell? ⟨g, 11, none⟩ = some (.string ⟨#[]⟩) ∧
    w.cell? ⟨g, 12, none⟩ = some (.string ⟨#[]⟩) ∧ w.cell? ⟨g, 13, none⟩ = some (.bool false) ∧ w.cell? ⟨g, 14, none⟩ = some (.string ⟨#[]⟩) ∧ w.cell? ⟨g, 15, none⟩ = some (.string ⟨#[]⟩) :=
  ⟨h.cell 0, h.cell 1, h.cell 2, h.cell 3, h.cell 4, h.cell 5, h.cell 6, h.cell 7, h.cell 8, h.cell 9, h.cell 10, h.cell 11, h.cell 12, h.cell 13, h.cell 14, h.cell 15⟩
theorem one_of {w w1 : World} {a : Array Value} {t : TypeId} (h : Fr (w.alloc (.cells a t)) w1) : Blk w1 w.heap.size t a ∧ Fr w w1 :=
  ⟨(Blk.new w t a).below h (Blk.new w t a).lt, ((Fr.refl _).alloc _).trans h⟩
theorem two_of {w w1 : World} {a b : Array Value} {t : TypeId} (h : Fr ((w.alloc (.cells a t)).alloc (.cells b t)) w1) : Blk w1 w.heap.size t a ∧ Blk w1 (w.heap.size + 1) t b ∧ Fr w w1 := by
  have h1 := ((Blk.new w t a).alloc (.cells b t)); have h2 := Blk.new (w.alloc (.cells a t)) t b
  refine ⟨h1.below h h1.lt, ?_, (((Fr.refl _).alloc _).alloc _).trans h⟩
  have := h2.below h h2.lt
  simpa using this

set_option maxHeartbeats 1000000 in
theorem FnHostname_big (h : ByteArray) (b : Bool) (p : Int) (w : World) (hb : ¬ h.size ≤ 2147483647) :
    Calls Try.prog 7 #[.string h, .bool b, .int .i64 p] w fun e w' => e = .returned (.bool true) ∧ Fr w w' := by
  have hb : 2147483647 < (h.size : Int) := by omega
  go_enter Try.func7, Try.ntmps7
  go_wp2
  go_ret
  exact ⟨rfl, Fr.refl _⟩
set_option maxHeartbeats 1000000 in
theorem FnHostname_not (h : ByteArray) (b : Bool) (p : Int) (w : World) (hb : h.size ≤ 2147483647) (hw : (Lit.int .i64 p).wf = true) (hc : (if b then NU.isIPv6 (L h) else NU.chars [] false (L h)) = false) :
    Calls Try.prog 7 #[.string h, .bool b, .int .i64 p] w fun e w' => e = .returned (.bool true) ∧ Fr w w' := by
  have CD := Lib.hid (Digits_any p w hw)
  have hs : h.size ≤ 1099511627776 := by omega
  have C1 := Lib.hid (fun W => IsIPv6_any h W hs)
  have C2 := Lib.hid (fun W => IsName_any h W hs)
  clear hw hs
  cases b
  · rw [if_neg (by simp)] at hc
    rw [hc] at C2
    clear hc C1
    go_enter Try.func7, Try.ntmps7
    go_wp2_with (first
      | (go_at_call 18; refine CD.out.mono ?_; rintro e w1 ⟨⟨d, rfl, hd, hz⟩, rfl⟩; replace hd := Lib.hid hd)
      | (go_at_call 22; refine (C2.out _).mono ?_; rintro e w2 ⟨rfl, hf2⟩))
    go_ret
    exact ⟨rfl, by assumption⟩
  · rw [if_pos rfl] at hc
    rw [hc] at C1
    clear hc C2
    go_enter Try.func7, Try.ntmps7
    go_wp2_with (first
      | (go_at_call 18; refine CD.out.mono ?_; rintro e w1 ⟨⟨d, rfl, hd, hz⟩, rfl⟩; replace hd := Lib.hid hd)
      | (go_at_call 19; refine (C1.out _).mono ?_; rintro e w2 ⟨rfl, n1, rfl⟩))
    go_ret
    exact ⟨rfl, (Fr.refl _).drewN _⟩

set_option maxRecDepth 100000 in
set_option maxHeartbeats 2000000 in
theorem FnHostname_name (h : ByteArray) (p : Int) (w : World) (hb : h.size ≤ 2147483647) (hw : (Lit.int .i64 p).wf = true) (hc : NU.chars [] false (L h) = true) :
    Calls Try.prog 7 #[.string h, .bool false, .int .i64 p] w fun e w' => e = .returned (.bool true) ∧ Fr w w' := by
  have CD := Lib.hid (Digits_any p w hw)
  have hs : h.size ≤ 1099511627776 := by omega
  have C2 := Lib.hid (fun W => IsName_any h W hs)
  rw [hc] at C2
  have HC := Lib.hid hc
  clear hw hs hc
  go_enter Try.func7, Try.ntmps7
  go_wp2_with (first
    | (go_at_call 18; refine CD.out.mono ?_; rintro e w1 ⟨⟨d, rfl, hd, hz⟩, rfl⟩; replace hd := Lib.hid hd)
    | (go_at_call 22; refine (C2.out _).mono ?_; rintro e w2 ⟨rfl, hf2⟩))
  have HL := Lib.hid (NU.name_law (L h) (L d) HC.out hd.out)
  have hz1 : (h ++ (⟨#[58]⟩ : ByteArray) ++ d).size ≤ 1099511627776 := by
    rw [ByteArray.size_append, ByteArray.size_append]; have : (⟨#[58]⟩ : ByteArray).size = 1 := rfl
    omega
  have hz2 : h.size ≤ 1099511627776 := by omega
  have D1 := Lib.hid (hostnameC (h ++ ⟨#[58]⟩ ++ d) (L h) hz1 (by have := HL.out.1; simpa [L] using this))
  have D2 := Lib.hid (portC (h ++ ⟨#[58]⟩ ++ d) (L d) hz1 (by have := HL.out.2.1; simpa [L] using this))
  have D3 := Lib.hid (hostnameC h (L h) hz2 HL.out.2.2)
  rw [mk_L] at D1 D2 D3
  clear HL hz1 hz2 hb hz C2 CD HC hd
  refine (D1.out _).mono ?_
  rintro e w3 ⟨rfl, hf3⟩
  obtain ⟨hB, hf4⟩ := one_of hf3
  clear hf3 D1
  have hf5 := Fr.trans hf2 hf4
  clear hf2 hf4
  obtain ⟨c0, c1, c2, c3, c4, c5, c6, c7, c8, c9, c10, c11, c12, c13, c14, c15⟩ := hostCells hB
  replace hB := Lib.hid hB
  go_wp2_with fail
  refine (D2.out _).mono ?_
  rintro e w4 ⟨rfl, hf6⟩
  have hf7 := Fr.trans hf5 hf6
  clear c0 c1 c2 c3 c4 c5 c6 c7 c8 c9 c10 c11 c12 c13 c14 c15 hB hf5 hf6 D2
  go_wp2_with fail
  refine (D3.out _).mono ?_
  rintro e w5 ⟨rfl, hf8⟩
  have hf9 := Fr.trans hf7 hf8
  clear hf7 hf8
  go_wp2
  go_ret
  exact ⟨rfl, hf9⟩
set_option maxRecDepth 100000 in
set_option maxHeartbeats 2000000 in
theorem FnHostname_addr (h : ByteArray) (p : Int) (w : World) (hb : h.size ≤ 2147483647) (hw : (Lit.int .i64 p).wf = true) (hc : NU.isIPv6 (L h) = true) :
    Calls Try.prog 7 #[.string h, .bool true, .int .i64 p] w fun e w' => e = .returned (.bool true) ∧ Fr w w' := by
  have CD := Lib.hid (Digits_any p w hw)
  have hs : h.size ≤ 1099511627776 := by omega
  have C2 := Lib.hid (fun W => IsIPv6_any h W hs)
  rw [hc] at C2
  clear hw hs hc
  go_enter Try.func7, Try.ntmps7
  go_wp2_with (first
    | (go_at_call 18; refine CD.out.mono ?_; rintro e w1 ⟨⟨d, rfl, hd, hz⟩, rfl⟩; replace hd := Lib.hid hd)
    | (go_at_call 19; refine (C2.out _).mono ?_; rintro e w2 ⟨rfl, hx⟩; have hf2 : Fr w w2 := (by obtain ⟨n2, rfl⟩ := hx; exact (Fr.refl w).drewN n2); clear hx))
  have HL := Lib.hid (NU.box_law (L h) (L d) hd.out)
  have hz1 : ((⟨#[91]⟩ : ByteArray) ++ h ++ (⟨#[93, 58]⟩ : ByteArray) ++ d).size ≤ 1099511627776 := by
    rw [ByteArray.size_append, ByteArray.size_append, ByteArray.size_append]; have : (⟨#[91]⟩ : ByteArray).size = 1 := rfl
    have : (⟨#[93, 58]⟩ : ByteArray).size = 2 := rfl
    omega
  have hz2 : ((⟨#[91]⟩ : ByteArray) ++ h ++ (⟨#[93]⟩ : ByteArray)).size ≤ 1099511627776 := by
    rw [ByteArray.size_append, ByteArray.size_append]; have : (⟨#[91]⟩ : ByteArray).size = 1 := rfl
    have : (⟨#[93]⟩ : ByteArray).size = 1 := rfl
    omega
  have D1 := Lib.hid (hostnameC (⟨#[91]⟩ ++ h ++ ⟨#[93, 58]⟩ ++ d) (L h) hz1 (by have := HL.out.1; simpa [L] using this))
  have D2 := Lib.hid (portC (⟨#[91]⟩ ++ h ++ ⟨#[93, 58]⟩ ++ d) (L d) hz1 (by have := HL.out.2.1; simpa [L] using this))
  have D3 := Lib.hid (hostnameC (⟨#[91]⟩ ++ h ++ ⟨#[93]⟩) (L h) hz2 (by have := HL.out.2.2.1; simpa [L] using this))
  have D4 := Lib.hid (portC (⟨#[91]⟩ ++ h ++ ⟨#[93]⟩) [] hz2 (by have := HL.out.2.2.2; simpa [L] using this))
  rw [mk_L] at D1 D2 D3
  rw [show mk [] = (⟨#[]⟩ : ByteArray) from rfl] at D4
  clear HL hz1 hz2 hb hz C2 CD hd
  refine (D1.out _).mono ?_
  rintro e w3 ⟨rfl, hf3⟩
  as_aux_lemma =>
    obtain ⟨hA, hB, hf4⟩ := two_of hf3
    clear hf3 D1
    have hf5 := Fr.trans hf2 hf4
    clear hf2 hf4
    obtain ⟨c0, c1, c2, c3, c4, c5, c6, c7, c8, c9, c10, c11, c12, c13, c14, c15⟩ := hostCells hA
    clear hA
    replace hB := Lib.hid hB
    go_wp2_with fail
    refine (D2.out _).mono ?_
    rintro e w4 ⟨rfl, hf6⟩
    as_aux_lemma =>
      have hB2 := hB.out.below hf6 hB.out.lt
      have hf7 := Fr.trans hf5 hf6
      clear c0 c1 c2 c3 c4 c5 c6 c7 c8 c9 c10 c11 c12 c13 c14 c15 hB hf5 hf6 D2
      obtain ⟨c0, c1, c2, c3, c4, c5, c6, c7, c8, c9, c10, c11, c12, c13, c14, c15⟩ := hostCells hB2
      replace hB2 := Lib.hid hB2
      go_wp2_with fail
      refine (D3.out _).mono ?_
      rintro e w5 ⟨rfl, hf8⟩
      as_aux_lemma =>
        have hB3 := hB2.out.below hf8 hB2.out.lt
        have hf9 := Fr.trans hf7 hf8
        clear c0 c1 c2 c3 c4 c5 c6 c7 c8 c9 c10 c11 c12 c13 c14 c15 hB2 hf7 hf8 D3
        obtain ⟨c0, c1, c2, c3, c4, c5, c6, c7, c8, c9, c10, c11, c12, c13, c14, c15⟩ := hostCells hB3
        clear hB3
        go_wp2_with fail
        refine (D4.out _).mono ?_
        rintro e w6 ⟨rfl, hf10⟩
        as_aux_lemma =>
          have hf11 := Fr.trans hf9 hf10
          clear c0 c1 c2 c3 c4 c5 c6 c7 c8 c9 c10 c11 c12 c13 c14 c15 hf9 hf10 D4
          go_wp2
          go_ret
          exact ⟨rfl, hf11⟩
theorem FnHostname_any (h : ByteArray) (b : Bool) (p : Int) (w : World) (hw : (Lit.int .i64 p).wf = true) :
    Calls Try.prog 7 #[.string h, .bool b, .int .i64 p] w fun e w' => e = .returned (.bool true) ∧ Fr w w' := by
  by_cases hb : h.size ≤ 2147483647
  · cases b
    · by_cases hc : NU.chars [] false (L h) = true
      · exact FnHostname_name h p w hb hw hc
      · exact FnHostname_not h false p w hb hw (by simpa using hc)
    · by_cases hc : NU.isIPv6 (L h) = true
      · exact FnHostname_addr h p w hb hw hc
      · exact FnHostname_not h true p w hb hw (by simpa using hc)
  · exact FnHostname_big h b p w hb
end Go.Proofs.Ytcbmfimafiolaaa
