import Derived.Test.YtibcegbacnjmfaaGreatDoorW94
import Derived.Test.YtibcegbacnjmfaaGreatDoorW39
import Derived.Test.YtibcegbacnjmfaaGreatDoorP
namespace Go.Proofs.YtibcegbacnjmfaaGreatDoor
set_option linter.unusedVariables false
set_option linter.unusedSimpArgs false
open Go.RowKit

set_option maxRecDepth 100000 in
set_option maxHeartbeats 4000000 in
theorem ParseAddr_any (s : ByteArray) (hs : s.size ≤ 35184372088832) (h37 : (37 : UInt8) ∉ L s) (hv : NU.v6b (L s) = true) (hf : ((L s).drop (NU.index (L s) [46, 58, 37])).head? = some 58)
    (a4 a6 : Addr) (c4 c6 : Array Value) (t4 t6 : TypeId) (hne : a6 ≠ a4) (w : World) (h4 : w.cell? ⟨3, 0, none⟩ = some (.pointer (some a4))) (h6 : w.cell? ⟨6, 0, none⟩ = some (.pointer (some a6))) (h0 : w.cell? ⟨7, 0, none⟩ = some (.pointer none))
    (k4 : w.heap[a4.block]? = some (.cells c4 t4 (0, 0))) (k6 : w.heap[a6.block]? = some (.cells c6 t6 (0, 0))) :
    Calls Tryz.prog 85 #[.string s] w fun e w' => (∃ hi lo, e = .returned (.tuple #[.agg #[.int .u64 hi, .int .u64 lo, .pointer (some a6)], .nilIface])) ∧ Fr w w' := by
  have C6 := Lib.hid (fun W (f : Fr w W) => parseIPv6_any s hs h37 hv a4 a6 c4 c6 t4 t6 hne W (cell_keep f h4) (cell_keep f h6) (cell_keep f h0) (heap_keep f k4) (heap_keep f k6))
  clear h4 h6 h0 k4 k6 hv h37
  obtain ⟨n, hn⟩ : ∃ n, n = NU.index (L s) [46, 58, 37] := ⟨_, rfl⟩
  have hall := NU.take_index (L s) [46, 58, 37]
  rw [← hn] at hf hall
  have hns : n < s.size ∧ ((L s).drop n).head? = some 58 := by
    rcases Nat.lt_or_ge n s.size with h | h
    · exact ⟨h, hf⟩
    · rw [drop_end s n h] at hf; cases hf
  obtain ⟨hlt, hf⟩ := hns
  have hsn : s[n] = 58 := by
    rw [drop_cons s n hlt] at hf
    simpa using hf
  have HNO : Hid (∀ k, (hk : k < s.size) → k < n → s[k] ≠ 46 ∧ s[k] ≠ 58 ∧ s[k] ≠ 37) := by
    show ∀ (k : Nat) (hk : k < s.size), k < n → s[k] ≠ 46 ∧ s[k] ≠ 58 ∧ s[k] ≠ 37
    intro k hk hkn
    have hm : s[k] ∈ (L s).take n := by
      have : (L s)[k]'(by simpa using hk) = s[k] := rfl
      rw [← this]
      exact List.mem_take_iff_getElem.2 ⟨k, by simp; omega, rfl⟩
    have := List.all_eq_true.1 hall _ hm
    simp [NU.mem] at this
    exact this
  clear hall hn hf
  have F0 : Hid (Fr w (w.alloc (.cells #[.int .u64 0, .int .u64 0, .pointer none] 121))) := Lib.hid ((Fr.refl w).alloc _)
  have R0 : Hid (Blk (w.alloc (.cells #[.int .u64 0, .int .u64 0, .pointer none] 121)) w.heap.size 121 #[.int .u64 0, .int .u64 0, .pointer none]) := Lib.hid (Blk.new w _ _)
  go_enter Tryz.func85, Tryz.ntmps85
  go_wp2
  go_loop [4] (fun i => ∃ k : Nat, k ≤ n ∧ i = .int .i64 (k : Int)) (fun i => s.size - (intOf i).toNat)
  case atStart => exact ⟨0, by omega, rfl⟩
  case round =>
    obtain ⟨k, hk, rfl⟩ := hrel
    have hks : k < s.size := by omega
    have hks' : (k : Int) < (s.size : Int) := by omega
    by_cases hkn : k < n
    · obtain ⟨n1, n2, n3⟩ := HNO.out k hks hkn
      have m1 : ((s[k].toNat : Int) == 46) = false := by rw [beq_eq_false_iff_ne]; intro e; exact n1 (UInt8.toNat_inj.1 (by have : (46 : UInt8).toNat = 46 := rfl; omega))
      have m2 : ((s[k].toNat : Int) == 58) = false := by rw [beq_eq_false_iff_ne]; intro e; exact n2 (UInt8.toNat_inj.1 (by have : (58 : UInt8).toNat = 58 := rfl; omega))
      have m3 : ((s[k].toNat : Int) == 37) = false := by rw [beq_eq_false_iff_ne]; intro e; exact n3 (UInt8.toNat_inj.1 (by have : (37 : UInt8).toNat = 37 := rfl; omega))
      clear n1 n2 n3
      go_wp2
      go_round
      case rel => exact ⟨k + 1, by omega, by first | rfl | go_num⟩
      case measure => first | (simp [intOf]; done) | (simp [intOf]; omega)
    · obtain rfl : k = n := by omega
      have m1 : ((s[k].toNat : Int) == 46) = false := by rw [hsn]; rfl
      have m2 : ((s[k].toNat : Int) == 58) = true := by rw [hsn]; rfl
      clear hsn HNO
      go_wp2_with (first
        | (go_at_call 92; (with_reducible refine (C6.out _ F0.out).mono ?_); rintro e w1 ⟨⟨hi, lo, rfl⟩, hf1⟩; have F1 := Lib.hid (F0.out.trans hf1); have R1 := Lib.hid (R0.out.below hf1 R0.out.lt))
        | (refine wpList_store_ip rfl _ _ rfl _ _ rfl rfl _ _ R1 rfl rfl (ip_one _ _ _) ?_)
        | fail)
      (try simp only [Exit.inBlock, Exit.then])
      refine bodyPost_ret (ret_ip2 rfl _ _ _ rfl _ _ (R1.out.row _) rfl) rfl ?_
      exact ⟨⟨hi, lo, rfl⟩, F1.out.setRow (Nat.le_refl _) _⟩
end Go.Proofs.YtibcegbacnjmfaaGreatDoor
namespace Go.Proofs.YtibcegbacnjmfaaGreatDoor
set_option linter.unusedVariables false
set_option linter.unusedSimpArgs false
open Go.RowKit

theorem noPct_of {s : ByteArray} (h : (37 : UInt8) ∉ L s) : noPct s := by
  intro k hk e
  apply h
  have h1 : s[k] = (L s)[k]'(by simpa using hk) := rfl
  rw [← e, h1]; exact List.getElem_mem _
/-- .. at a host that passes. -/
theorem unescape_pass (s : ByteArray) (hs : s.size ≤ 35184372088832) (h : ∀ c ∈ L s, c ≠ 37 ∧ NU.vetC 4 c = true) (w : World) (ht : Hid (Tab w)) :
    Calls Tryz.prog 60 #[.string s, .int .u8 4] w fun e w' => e = .returned (.tuple #[.string s, .nilIface]) ∧ Fr w w' := by
  refine (unescape_host s hs (Lib.hid (noPct_of fun hm => (h _ hm).1 rfl)) w ht).mono ?_
  rintro e w' ⟨⟨ev, rfl, hev⟩, hf⟩
  have hv := NU.vet_all 4 (L s) h
  rw [hv] at hev
  have hev : ev = .nilIface := hev
  subst hev
  rw [hv]
  exact ⟨rfl, hf⟩
set_option maxRecDepth 100000 in
set_option maxHeartbeats 8000000 in
theorem parseHost_bracket (sc ho : ByteArray) (hh : ho.size ≤ 274877906944) (hB : NU.HostB (L ho)) (w : World) (ht : Hid (Tab w)) :
    Calls Tryz.prog 71 #[.string sc, .string ho] w fun e w' => PhPost (NU.parseHost (L sc) (L ho)) e ∧ Fr w w' := by
  have HPH : Hid (NU.parseHost (L sc) (L ho) = some (L ho)) := Lib.hid (NU.parseHost_B (L sc) (L ho) hB)
  obtain ⟨A, P, hL, hA, hP⟩ := hB
  obtain ⟨hv6, hipc, hfirst⟩ := NU.isIPv6_v6b A hA
  have hac := fun c hc => NU.host_chars (c := c) (.inr (.inr (.inr (NU.isIPv6_chars hA c hc))))
  have hpc := fun c (hc : c ∈ P) => NU.host_chars (c := c) ((NU.port_chars hP c hc).elim (fun e => .inr (.inl e)) (fun e => .inr (.inr (.inl e))))
  have e91 : NU.lastIdx 91 (L ho) = 0 := by
    rw [hL]
    have := NU.lastIdx_mid 91 [] (A ++ 93 :: P) (by
      intro hm
      simp only [List.mem_cons, List.mem_append] at hm
      rcases hm with hm | hm | hm
      · exact (hac _ hm).2.1 rfl
      · exact absurd hm (by decide)
      · exact (hpc _ hm).2.1 rfl)
    simpa using this
  obtain ⟨n, hn⟩ : ∃ n, n = A.length + 1 := ⟨_, rfl⟩
  have e93 : NU.lastIdx 93 (L ho) = (n : Nat) := by
    rw [hL]
    have := NU.lastIdx_mid 93 (91 :: A) P (fun hm => (hpc _ hm).2.2.1 rfl)
    rw [hn]
    simpa using this
  have hsz : ho.size = n + P.length + 1 := by rw [← L_length, hL]; simp; omega
  obtain ⟨p, hp⟩ : ∃ p, ho.extract (n + 1) ho.size = p := ⟨_, rfl⟩
  obtain ⟨a, ha⟩ : ∃ a, ho.extract 1 n = a := ⟨_, rfl⟩
  have hpL : L p = P := by
    rw [← hp, ext_from, L_mk, hL, hn, List.drop_succ_cons]
    rw [← List.drop_drop, List.drop_left]; rfl
  have haL : L a = A := by
    rw [← ha, ext_mk, L_mk, hL, hn, List.drop_succ_cons, List.drop_zero, Nat.add_sub_cancel, List.take_left]
  have hWH : ⟨#[91]⟩ ++ a ++ ⟨#[93]⟩ ++ p = ho := by
    apply eq_L
    rw [L_app, L_app, L_app, hpL, haL, hL]
    simp [L]
  have hpz : p.size ≤ 274877906944 := by rw [← L_length, hpL]; omega
  have haz : a.size ≤ 274877906944 := by rw [← L_length, haL]; omega
  have C1 := Lib.hid (fun W => LastIndex1_any ho 91 W (by omega))
  have C2 := Lib.hid (fun W => LastIndex1_any ho 93 W (by omega))
  rw [e91] at C1
  rw [e93] at C2
  have C3 := Lib.hid (fun W => validOptionalPort_any p W (by omega))
  rw [hpL, hP] at C3
  have C4 := Lib.hid (fun W hW => unescape_pass p (by omega) (by rw [hpL]; exact fun c hc => ⟨(hpc c hc).1, (hpc c hc).2.2.2.2.2.2.2.2⟩) W hW)
  have C5 := Lib.hid (fun W hW => unescape_pass a (by omega) (by rw [haL]; exact fun c hc => ⟨(hac c hc).1, (hac c hc).2.2.2.2.2.2.2.2⟩) W hW)
  have C6 := Lib.hid (fun W => zzIndex_any a ⟨#[37, 50, 53]⟩ W (by omega) (by show (3 : Nat) ≤ 35184372088832; omega))
  have hf3 : NU.fsub [37, 50, 53] A = -1 := by
    have h1 := NU.fsub3_none A (fun hm => (hac _ hm).1 rfl)
    have h2 := NU.fsub_lo [37, 50, 53] A
    omega
  rw [show L ⟨#[37, 50, 53]⟩ = [37, 50, 53] from rfl, haL, hf3] at C6
  have hnI : (n : Int) + 1 ≤ (ho.size : Int) := by omega
  have h1n : (1 : Int) ≤ (n : Int) := by omega
  have hnI2 : (n : Int) ≤ (ho.size : Int) := by omega
  obtain ⟨a4, a6, c4, c6, t4, t6, h4, h6, h0, hne, k4, k6⟩ := ht.out.z
  have C7 := Lib.hid (fun W (f : Fr w W) => ParseAddr_any a (by omega) (by rw [haL]; exact NU.no37 hipc) (by rw [haL]; exact hv6) (by rw [haL]; exact hfirst) a4 a6 c4 c6 t4 t6 hne W (cell_keep f h4) (cell_keep f h6) (cell_keep f h0) (heap_keep f k4) (heap_keep f k6))
  have C8 := Lib.hid (fun hi lo W (f : Fr w W) => Is4_any hi lo a4 a6 c4 c6 t4 t6 hne W (cell_keep f h4) (cell_keep f h6) (cell_keep f h0) (heap_keep f k4) (heap_keep f k6))
  clear h4 h6 h0 k4 k6 hac hpc hL hA hP hv6 hipc hfirst e91 e93 hn hpL haL hsz hf3 hne
  go_enter Tryz.func71, Tryz.ntmps71
  go_wp2_with (first
    | (go_at_call 70; (with_reducible refine (C1.out _).mono ?_); rintro e w1 ⟨rfl, rfl⟩)
    | (go_at_call 70; (with_reducible refine (C2.out _).mono ?_); rintro e w1 ⟨rfl, rfl⟩)
    | (go_at_call 84; (with_reducible refine (C3.out _).mono ?_); rintro e w1 ⟨rfl, hf1⟩; have ht1 := Lib.hid (ht.out.fr hf1))
    | (go_at_call 60; (with_reducible refine (C4.out _ ht1).mono ?_); rintro e w2 ⟨rfl, hf2⟩; have F2 := Lib.hid (hf1.trans hf2); have ht2 := Lib.hid (ht.out.fr F2.out))
    | (go_at_call 51; (with_reducible refine (C6.out _).mono ?_); rintro e w1 ⟨rfl, rfl⟩)
    | (go_at_call 60; (with_reducible refine (C5.out _ ht2).mono ?_); rintro e w3 ⟨rfl, hf3⟩; have F3 := Lib.hid (F2.out.trans hf3))
    | (go_at_call 85; (with_reducible refine (C7.out _ F3.out).mono ?_); rintro e w4 ⟨⟨hi, lo, rfl⟩, hf4⟩; have F4 := Lib.hid (F3.out.trans hf4); have hb5 : Hid (Blk (w4.alloc (.cells #[.int .u64 0, .int .u64 0, .pointer none] 121)) w4.heap.size 121 #[.int .u64 0, .int .u64 0, .pointer none]) := Lib.hid (Blk.new _ _ _); have hb6 : Hid (Blk ((w4.alloc (.cells #[.int .u64 0, .int .u64 0, .pointer none] 121)).setRow w4.heap.size #[.int .u64 hi, .int .u64 lo, .pointer (some a6)]) w4.heap.size 121 #[.int .u64 hi, .int .u64 lo, .pointer (some a6)]) := Lib.hid (hb5.out.row _); have F6 : Hid (Fr w ((w4.alloc (.cells #[.int .u64 0, .int .u64 0, .pointer none] 121)).setRow w4.heap.size #[.int .u64 hi, .int .u64 lo, .pointer (some a6)])) := Lib.hid ((F4.out.alloc _).setRow F4.out.size _))
    | (refine wpList_store_ip rfl _ _ rfl _ _ rfl rfl _ _ hb5 rfl rfl (ip_one _ _ _) ?_)
    | (refine wpList_load_ip rfl _ rfl _ rfl _ _ hb6 rfl ?_)
    | (go_at_call 86; (with_reducible refine (C8.out _ _ _ F6.out).mono ?_); rintro e w7 ⟨rfl, hf7⟩; have F7 := Lib.hid (F6.out.trans hf7))
    | fail)
  go_ret2
  exact ⟨ph_some HPH.out (by first | rfl | rw [hWH]), F7.out⟩
end Go.Proofs.YtibcegbacnjmfaaGreatDoor
