import Derived.Test.YtibcegbacnjmfaaGreatDoorRow
import Derived.Test.YtibcegbacnjmfaaGreatDoorW21
import Derived.Test.YtibcegbacnjmfaaGreatDoorSc
import Derived.Deep.RegionWith
import Derived.Deep.RegionLaw
import Derived.Deep.DeepCutAuto
import Derived.BigQuiet
namespace Go.Proofs.YtibcegbacnjmfaaGreatDoor
set_option linter.unusedVariables false
set_option linter.unusedSimpArgs false
open Go.RowKit

/-- What unescape hands back as its error. -/
def UErr (o : Option (List UInt8)) (ev : Value) : Prop :=
  match o with
  | some _ => ev = .nilIface
  | none => ∃ x, ev = .iface 101 (.string x)

theorem u8shl4 (a : UInt8) : IntKind.u8.wrap ((a.toNat : Int) * 16) = ((a <<< 4).toNat : Int) := by
  rw [IntKind.wrap_u8]
  have := NU.all_u8 (fun a => decide ((a.toNat : Int) * 16 % 256 = ((a <<< 4).toNat : Int))) (by decide +kernel) a
  exact of_decide_eq_true this
theorem unhex_or (a b : UInt8) (h : Hid (0 ≤ NU.hexv a ∧ 0 ≤ NU.hexv b)) : bits BinOp.or IntKind.u8 (IntKind.u8.wrap (((NU.unhex a).toNat : Int) * 16)) ((NU.unhex b).toNat : Int) = ((NU.hex2 a b).toNat : Int) := by
  rw [u8shl4, u8or, NU.unhex_hex2 a b h.out.1 h.out.2]
theorem dec_step1 (q : Bool) (s : ByteArray) (k : Nat) (hlt : k < s.size) (hne : s[k] ≠ 37) (hx : (q && s[k] == 43) = false) :
    (NU.dec q ((L s).drop k)).map ((L s).take k ++ ·) = (NU.dec q ((L s).drop (k + 1))).map ((L s).take (k + 1) ++ ·) := by
  have e1 : (L s).take (k + 1) = (L s).take k ++ [s[k]] := by
    rw [List.take_succ_eq_append_getElem (by rw [L_length]; exact hlt)]; rfl
  rw [drop_cons s k hlt, NU.dec_other _ _ _ hne, hx, e1]
  cases NU.dec q ((L s).drop (k + 1)) <;> simp
theorem uns_none {o : Option (List UInt8)} {e : Ending} {x : ByteArray} (h : o = none) (he : e = .returned (.tuple #[.string ⟨#[]⟩, .iface 101 (.string x)])) :
    ∃ ev, e = .returned (.tuple #[.string (mk (o.getD [])), ev]) ∧ UErr o ev := by subst h he; exact ⟨_, rfl, _, rfl⟩
theorem uns_some {o : Option (List UInt8)} {e : Ending} {l : List UInt8} (h : o = some l) (he : e = .returned (.tuple #[.string (mk l), .nilIface])) :
    ∃ ev, e = .returned (.tuple #[.string (mk (o.getD [])), ev]) ∧ UErr o ev := by subst h he; exact ⟨_, rfl, rfl⟩

set_option maxRecDepth 100000 in
set_option maxHeartbeats 4000000 in
theorem unescape_any (s : ByteArray) (m : Int) (q : Bool) (w : World) (ht : Tab w) (hs : s.size ≤ 35184372088832) (hq : (m == 32) = q) (h4 : (m == 4) = false) (h8 : (m == 8) = false) :
    Calls Tryz.prog 60 #[.string s, .int .u8 m] w fun e w' => (∃ ev, e = .returned (.tuple #[.string (mk ((NU.dec q (L s)).getD [])), ev]) ∧ UErr (NU.dec q (L s)) ev) ∧ Fr w w' := by
  replace ht := Lib.hid ht
  go_enter Tryz.func60, Tryz.ntmps60
  go_wp2
  go_loop [0, 6, 7, 8] (fun t n hp i => ∃ (k N : Nat) (b : Bool), t = .string s ∧ n = .int .i64 (N : Int) ∧ hp = .bool b ∧ i = .int .i64 (k : Int) ∧ k ≤ s.size ∧ 3 * N ≤ k ∧ Hid ((NU.dec q (L s)).isSome = (NU.dec q ((L s).drop k)).isSome) ∧ Hid (N = 0 → b = false → NU.dec q (L s) = (NU.dec q ((L s).drop k)).map ((L s).take k ++ ·)) ∧ Hid (q = false → b = false)) (fun _ _ _ i => s.size - (intOf i).toNat)
  case atStart => exact ⟨0, 0, false, rfl, rfl, rfl, rfl, by omega, by omega, by show _ = _; simp, by intro _ _; simp, fun _ => rfl⟩
  case round =>
    obtain ⟨k, N, b, rfl, rfl, rfl, rfl, hk, hN, HS, HZ, HB⟩ := hrel
    by_cases hlt : k < s.size
    · by_cases hc : ((s[k].toNat : Int) == 37) = true
      · have h37 : s[k] = 37 := by
          have : (s[k].toNat : Int) = 37 := by simpa using hc
          exact UInt8.toNat_inj.1 (by rw [show (37 : UInt8).toNat = 37 from rfl]; omega)
        by_cases h2 : k + 2 < s.size
        · obtain ⟨xa, hxa⟩ : ∃ xa, xa = s[k + 1] := ⟨_, rfl⟩
          obtain ⟨xb, hxb⟩ : ∃ xb, xb = s[k + 2] := ⟨_, rfl⟩
          have HD : Hid (NU.dec q ((L s).drop k) = if 0 ≤ NU.hexv xa ∧ 0 ≤ NU.hexv xb then (NU.dec q ((L s).drop (k + 3))).map (NU.hex2 xa xb :: ·) else none) := by
            show _ = _
            rw [drop_cons s k hlt, drop_cons s (k + 1) (by omega), drop_cons s (k + 2) h2, h37, NU.dec_pct, ← hxa, ← hxb]
          have CA := Lib.hid (fun W hW => ishex_any xa W hW)
          have CB := Lib.hid (fun W hW => ishex_any xb W hW)
          have hxa' := hxa.symm
          have hxb' := hxb.symm
          clear hxa hxb h37
          by_cases hA : 0 ≤ NU.hexv xa
          · by_cases hB : 0 ≤ NU.hexv xb
            · rw [decide_eq_true hA] at CA
              rw [decide_eq_true hB] at CB
              go_wp2_with (first
                | (go_at_call_of 73 (Value.int .u8 xa.toNat); refine (CA.out _ ht.out).mono ?_; rintro e w1 ⟨rfl, rfl⟩)
                | (go_at_call_of 73 (Value.int .u8 xb.toNat); refine (CB.out _ ht.out).mono ?_; rintro e w1 ⟨rfl, rfl⟩))
              go_round
              case rel =>
                refine ⟨k + 3, N + 1, b, rfl, rfl, rfl, rfl, by omega, by omega, ?_, ?_, HB⟩
                · show _ = _
                  rw [HS.out, HD.out, if_pos ⟨hA, hB⟩]; simp
                · intro h; omega
              case measure => first | (simp [intOf]; done) | (simp [intOf]; omega)
            · have HN : Hid (NU.dec q (L s) = none) := by
                show _ = _
                have := HS.out
                rw [HD.out, if_neg (fun h => hB h.2)] at this; simpa using this
              rw [decide_eq_true hA] at CA
              rw [decide_eq_false hB] at CB
              clear HS HD HZ
              go_wp2_with (first
                | (go_at_call_of 73 (Value.int .u8 xa.toNat); refine (CA.out _ ht.out).mono ?_; rintro e w1 ⟨rfl, rfl⟩)
                | (go_at_call_of 73 (Value.int .u8 xb.toNat); refine (CB.out _ ht.out).mono ?_; rintro e w1 ⟨rfl, rfl⟩))
              all_goals go_ret2
              all_goals exact ⟨uns_none HN.out rfl, Fr.refl _⟩
          · have HN : Hid (NU.dec q (L s) = none) := by
              show _ = _
              have := HS.out
              rw [HD.out, if_neg (fun h => hA h.1)] at this; simpa using this
            rw [decide_eq_false hA] at CA
            clear HS HD HZ
            go_wp2_with (first
                | (go_at_call_of 73 (Value.int .u8 xa.toNat); refine (CA.out _ ht.out).mono ?_; rintro e w1 ⟨rfl, rfl⟩)
                | (go_at_call_of 73 (Value.int .u8 xb.toNat); refine (CB.out _ ht.out).mono ?_; rintro e w1 ⟨rfl, rfl⟩))
            all_goals go_ret2
            all_goals exact ⟨uns_none HN.out rfl, Fr.refl _⟩
        · have HN : Hid (NU.dec q (L s) = none) := by
            show _ = _
            have := HS.out
            rw [drop_cons s k hlt, h37, NU.dec_short _ _ (by rw [List.length_drop, L_length]; omega)] at this; simpa using this
          have h2' : (s.size : Int) ≤ (k : Int) + 2 := by omega
          clear HS HZ h37
          go_wp2
          all_goals go_ret2
          all_goals exact ⟨uns_none HN.out rfl, Fr.refl _⟩
      · have hc : ((s[k].toNat : Int) == 37) = false := by simpa using hc
        have hne : Hid (s[k] ≠ 37) := by show _; intro e; rw [e] at hc; revert hc; decide
        have HS' : Hid ((NU.dec q (L s)).isSome = (NU.dec q ((L s).drop (k + 1))).isSome) := by
          show _ = _
          rw [HS.out, drop_cons s k hlt, NU.dec_other _ _ _ hne.out]; simp
        by_cases hp : ((s[k].toNat : Int) == 43) = true
        · have HZ' : Hid (N = 0 → q = false → NU.dec q (L s) = (NU.dec q ((L s).drop (k + 1))).map ((L s).take (k + 1) ++ ·)) := by
            intro hN0 hq0
            rw [HZ.out hN0 (HB.out hq0), dec_step1 q s k hlt hne.out (by rw [hq0]; rfl)]
          go_wp2
          go_round
          case rel => exact ⟨k + 1, N, q, rfl, rfl, rfl, rfl, by omega, by omega, HS', HZ', fun h => h⟩
          case measure => first | (simp [intOf]; done) | (simp [intOf]; omega)
        · have hp : ((s[k].toNat : Int) == 43) = false := by simpa using hp
          have HZ' : Hid (N = 0 → b = false → NU.dec q (L s) = (NU.dec q ((L s).drop (k + 1))).map ((L s).take (k + 1) ++ ·)) := by
            intro hN0 hb0
            have hne43 : (s[k] == 43) = false := by
              have := u8beq s[k] 43
              rw [← this]; exact hp
            rw [HZ.out hN0 hb0, dec_step1 q s k hlt hne.out (by rw [hne43, Bool.and_false])]
          go_wp2
          go_round
          case rel => exact ⟨k + 1, N, b, rfl, rfl, rfl, rfl, by omega, by omega, HS', HZ', HB⟩
          case measure => first | (simp [intOf]; done) | (simp [intOf]; omega)
    · have hkk : k = s.size := by omega
      subst hkk
      have HI : Hid ((NU.dec q (L s)).isSome = true) := by show _ = _; rw [HS.out, drop_end s s.size (by omega)]; rfl
      clear HS HB hlt
      by_cases h0 : N = 0 ∧ b = false
      · obtain ⟨rfl, rfl⟩ := h0
        have HE : Hid (NU.dec q (L s) = some (L s)) := by
          show _ = _
          rw [HZ.out rfl rfl, drop_end s s.size (by omega), List.take_of_length_le (by rw [L_length]; omega)]; simp [NU.dec]
        clear HZ
        go_wp2
        all_goals go_ret2
        all_goals exact ⟨uns_some HE.out (by rw [mk_L]; rfl), Fr.refl _⟩
      · clear HZ
        have h0' : ((N : Int) == 0) = false ∨ (((N : Int) == 0) = true ∧ b = true) := by
          by_cases h : N = 0
          · right; exact ⟨by simp [h], by cases b; exact absurd ⟨h, rfl⟩ h0; rfl⟩
          · left; simp; omega
        clear h0
        have hg0 : (s.size : Int) - 2 * (N : Int) = ((s.size - 2 * N : Nat) : Int) := by omega
        have hg1 : s.size - 2 * N ≤ 281474976710656 := by omega
        cases q
        case false =>
          rcases h0' with h0 | ⟨h0, rfl⟩
          all_goals
            go_wp2_with fail
            refine (sbGrow_fresh w.heap.size w.heap.size _ _ (Nat.le_refl _) (heap_alloc_new w _) (by simp) hg1).mono ?_
            rintro e w1 ⟨rfl, hB1, hf1⟩
            have hfr1 : Fr w w1 := Below.trans ((Fr.refl w).alloc _) hf1
            replace hB1 := Lib.hid hB1
            clear hf1 h0 hg0 hg1
            go_wp2
            go_loopw [12] (fun i wr => ∃ (k : Nat) (l : List UInt8), i = .int .i64 (k : Int) ∧ k ≤ s.size ∧ l.length ≤ k ∧ Fr w wr ∧ Hid (SB w.heap.size w.heap.size (.pointer (some ⟨w.heap.size, 0, none⟩)) (Lib.byteCells l) wr) ∧ Hid (NU.dec false (L s) = (NU.dec false ((L s).drop k)).map (l ++ ·))) (fun i _ => s.size - (intOf i).toNat)
            case atStart => exact ⟨0, [], rfl, by omega, by simp, hfr1, hB1, by show _ = _; simp⟩
            case round =>
              obtain ⟨k, l, rfl, hk, hl, hfr, HB2, HS⟩ := hrel
              have hbl : (Lib.byteCells l).length + 1 ≤ 140737488355328 := by rw [Lib.byteCells_length]; omega
              by_cases hlt : k < s.size
              · have hI2 : (NU.dec false ((L s).drop k)).isSome = true := by have := HI.out; rw [HS.out] at this; simpa using this
                by_cases hc : ((s[k].toNat : Int) == 37) = true
                · have h37 : s[k] = 37 := by
                    have : (s[k].toNat : Int) = 37 := by simpa using hc
                    exact UInt8.toNat_inj.1 (by rw [show (37 : UInt8).toNat = 37 from rfl]; omega)
                  have h2 : k + 2 < s.size := by
                    apply Classical.byContradiction; intro hn
                    rw [drop_cons s k hlt, h37, NU.dec_short _ _ (by rw [List.length_drop, L_length]; omega)] at hI2
                    cases hI2
                  obtain ⟨xa, hxa⟩ : ∃ xa, xa = s[k + 1] := ⟨_, rfl⟩
                  obtain ⟨xb, hxb⟩ : ∃ xb, xb = s[k + 2] := ⟨_, rfl⟩
                  have HD : Hid (NU.dec false ((L s).drop k) = if 0 ≤ NU.hexv xa ∧ 0 ≤ NU.hexv xb then (NU.dec false ((L s).drop (k + 3))).map (NU.hex2 xa xb :: ·) else none) := by
                    show _ = _
                    rw [drop_cons s k hlt, drop_cons s (k + 1) (by omega), drop_cons s (k + 2) h2, h37, NU.dec_pct, ← hxa, ← hxb]
                  have hAB : Hid (0 ≤ NU.hexv xa ∧ 0 ≤ NU.hexv xb) := by
                    show 0 ≤ NU.hexv xa ∧ 0 ≤ NU.hexv xb
                    apply Classical.byContradiction; intro hn
                    rw [HD.out, if_neg hn] at hI2
                    cases hI2
                  have CA := Lib.hid (fun W => unhex_any xa W)
                  have CB := Lib.hid (fun W => unhex_any xb W)
                  have hxa' := hxa.symm
                  have hxb' := hxb.symm
                  clear hxa hxb h37 hI2
                  have HS' : Hid (NU.dec false (L s) = (NU.dec false ((L s).drop (k + 3))).map ((l ++ [NU.hex2 xa xb]) ++ ·)) := by
                    show _ = _
                    rw [HS.out, HD.out, if_pos hAB.out]
                    cases NU.dec false ((L s).drop (k + 3)) <;> simp
                  clear HS HD
                  have i1 : (k : Int) + 1 < (s.size : Int) := by omega
                  have i2 : (k : Int) + 2 < (s.size : Int) := by omega
                  have i3 : (0 : Int) ≤ (k : Int) + 1 := by omega
                  have i4 : (0 : Int) ≤ (k : Int) + 2 := by omega
                  have t1 : ((k : Int) + 1).toNat = k + 1 := by omega
                  have t2 : ((k : Int) + 2).toNat = k + 2 := by omega
                  have w1 : IntKind.i64.wrap ((k : Int) + 1) = (k : Int) + 1 := by rw [IntKind.wrap_i64]; omega
                  have w2 : IntKind.i64.wrap ((k : Int) + 2) = (k : Int) + 2 := by rw [IntKind.wrap_i64]; omega
                  have wb := unhex_or xa xb hAB
                  go_wp2_with fail
                  go_region_law (first
                    | (go_simp; go_at_call_of 74 (Value.int .u8 xa.toNat); refine (CA.out _).mono ?_; rintro e w1 ⟨rfl, rfl⟩)
                    | (go_simp; go_at_call_of 74 (Value.int .u8 xb.toNat); refine (CB.out _).mono ?_; rintro e w1 ⟨rfl, rfl⟩)
                    | (go_simp; go_at_call 43; refine (sbWriteByte w.heap.size w.heap.size _ _ _ (.inr HB2.out.drew) hbl hfr.drew.size).mono ?_; rintro e w2 ⟨rfl, hB3, hf3⟩; replace hB3 := Lib.hid hB3))
                  all_goals
                    go_wp2
                    go_round
                    case rel => exact ⟨k + 3, l ++ [NU.hex2 xa xb], rfl, by omega, by simp; omega, Below.trans hfr.drew hf3, by simpa [Lib.byteCells] using hB3, HS'⟩
                    case measure => first | (simp [intOf]; done) | (simp [intOf]; omega)
                · have hc : ((s[k].toNat : Int) == 37) = false := by simpa using hc
                  have hne : Hid (s[k] ≠ 37) := by show _; intro e; rw [e] at hc; revert hc; decide
                  clear hI2
                  by_cases hp : ((s[k].toNat : Int) == 43) = true
                  · have h43 : s[k] = 43 := by
                      have := u8beq s[k] 43
                      have e : (s[k] == 43) = true := by rw [← this]; exact hp
                      simpa using e
                    have HS' : Hid (NU.dec false (L s) = (NU.dec false ((L s).drop (k + 1))).map ((l ++ [43]) ++ ·)) := by
                      show _ = _
                      rw [HS.out, drop_cons s k hlt, NU.dec_other _ _ _ hne.out, h43]
                      cases NU.dec false ((L s).drop (k + 1)) <;> simp
                    clear h43
                    go_wp2_with (go_at_call 43; refine (sbWriteByte w.heap.size w.heap.size _ _ _ (.inr HB2.out) hbl hfr.size).mono ?_; rintro e w2 ⟨rfl, hB3, hf3⟩; replace hB3 := Lib.hid hB3)
                    go_round
                    case rel => exact ⟨k + 1, l ++ [43], rfl, by omega, by simp; omega, Below.trans hfr hf3, by simpa [Lib.byteCells] using hB3, HS'⟩
                    case measure => first | (simp [intOf]; done) | (simp [intOf]; omega)
                  · have hp : ((s[k].toNat : Int) == 43) = false := by simpa using hp
                    have HS' : Hid (NU.dec false (L s) = (NU.dec false ((L s).drop (k + 1))).map ((l ++ [s[k]]) ++ ·)) := by
                      show _ = _
                      have hne43 : (s[k] == 43) = false := by
                        have := u8beq s[k] 43
                        rw [← this]; exact hp
                      rw [HS.out, drop_cons s k hlt, NU.dec_other _ _ _ hne.out, hne43]
                      cases NU.dec false ((L s).drop (k + 1)) <;> simp
                    go_wp2_with (go_at_call 43; refine (sbWriteByte w.heap.size w.heap.size _ _ _ (.inr HB2.out) hbl hfr.size).mono ?_; rintro e w2 ⟨rfl, hB3, hf3⟩; replace hB3 := Lib.hid hB3)
                    go_round
                    case rel => exact ⟨k + 1, l ++ [s[k]], rfl, by omega, by simp; omega, Below.trans hfr hf3, by simpa [Lib.byteCells] using hB3, HS'⟩
                    case measure => first | (simp [intOf]; done) | (simp [intOf]; omega)
              · have hE : Hid (NU.dec false (L s) = some l) := by show _ = _; rw [HS.out, drop_end s k (by omega)]; simp [NU.dec]
                clear HS
                go_wp2_with (go_at_call 49; refine (sbString w.heap.size w.heap.size l _ (.inr HB2.out) hfr.size).mono ?_; rintro e w2 ⟨rfl, hf3⟩)
                go_ret2
                exact ⟨uns_some hE.out rfl, Below.trans hfr hf3⟩
        case true =>
          rcases h0' with h0 | ⟨h0, rfl⟩
          all_goals
            go_wp2_with fail
            refine (sbGrow_fresh w.heap.size w.heap.size _ _ (Nat.le_refl _) (heap_alloc_new w _) (by simp) hg1).mono ?_
            rintro e w1 ⟨rfl, hB1, hf1⟩
            have hfr1 : Fr w w1 := Below.trans ((Fr.refl w).alloc _) hf1
            replace hB1 := Lib.hid hB1
            clear hf1 h0 hg0 hg1
            go_wp2
            go_loopw [12] (fun i wr => ∃ (k : Nat) (l : List UInt8), i = .int .i64 (k : Int) ∧ k ≤ s.size ∧ l.length ≤ k ∧ Fr w wr ∧ Hid (SB w.heap.size w.heap.size (.pointer (some ⟨w.heap.size, 0, none⟩)) (Lib.byteCells l) wr) ∧ Hid (NU.dec true (L s) = (NU.dec true ((L s).drop k)).map (l ++ ·))) (fun i _ => s.size - (intOf i).toNat)
            case atStart => exact ⟨0, [], rfl, by omega, by simp, hfr1, hB1, by show _ = _; simp⟩
            case round =>
              obtain ⟨k, l, rfl, hk, hl, hfr, HB2, HS⟩ := hrel
              have hbl : (Lib.byteCells l).length + 1 ≤ 140737488355328 := by rw [Lib.byteCells_length]; omega
              by_cases hlt : k < s.size
              · have hI2 : (NU.dec true ((L s).drop k)).isSome = true := by have := HI.out; rw [HS.out] at this; simpa using this
                by_cases hc : ((s[k].toNat : Int) == 37) = true
                · have h37 : s[k] = 37 := by
                    have : (s[k].toNat : Int) = 37 := by simpa using hc
                    exact UInt8.toNat_inj.1 (by rw [show (37 : UInt8).toNat = 37 from rfl]; omega)
                  have h2 : k + 2 < s.size := by
                    apply Classical.byContradiction; intro hn
                    rw [drop_cons s k hlt, h37, NU.dec_short _ _ (by rw [List.length_drop, L_length]; omega)] at hI2
                    cases hI2
                  obtain ⟨xa, hxa⟩ : ∃ xa, xa = s[k + 1] := ⟨_, rfl⟩
                  obtain ⟨xb, hxb⟩ : ∃ xb, xb = s[k + 2] := ⟨_, rfl⟩
                  have HD : Hid (NU.dec true ((L s).drop k) = if 0 ≤ NU.hexv xa ∧ 0 ≤ NU.hexv xb then (NU.dec true ((L s).drop (k + 3))).map (NU.hex2 xa xb :: ·) else none) := by
                    show _ = _
                    rw [drop_cons s k hlt, drop_cons s (k + 1) (by omega), drop_cons s (k + 2) h2, h37, NU.dec_pct, ← hxa, ← hxb]
                  have hAB : Hid (0 ≤ NU.hexv xa ∧ 0 ≤ NU.hexv xb) := by
                    show 0 ≤ NU.hexv xa ∧ 0 ≤ NU.hexv xb
                    apply Classical.byContradiction; intro hn
                    rw [HD.out, if_neg hn] at hI2
                    cases hI2
                  have CA := Lib.hid (fun W => unhex_any xa W)
                  have CB := Lib.hid (fun W => unhex_any xb W)
                  have hxa' := hxa.symm
                  have hxb' := hxb.symm
                  clear hxa hxb h37 hI2
                  have HS' : Hid (NU.dec true (L s) = (NU.dec true ((L s).drop (k + 3))).map ((l ++ [NU.hex2 xa xb]) ++ ·)) := by
                    show _ = _
                    rw [HS.out, HD.out, if_pos hAB.out]
                    cases NU.dec true ((L s).drop (k + 3)) <;> simp
                  clear HS HD
                  have i1 : (k : Int) + 1 < (s.size : Int) := by omega
                  have i2 : (k : Int) + 2 < (s.size : Int) := by omega
                  have i3 : (0 : Int) ≤ (k : Int) + 1 := by omega
                  have i4 : (0 : Int) ≤ (k : Int) + 2 := by omega
                  have t1 : ((k : Int) + 1).toNat = k + 1 := by omega
                  have t2 : ((k : Int) + 2).toNat = k + 2 := by omega
                  have w1 : IntKind.i64.wrap ((k : Int) + 1) = (k : Int) + 1 := by rw [IntKind.wrap_i64]; omega
                  have w2 : IntKind.i64.wrap ((k : Int) + 2) = (k : Int) + 2 := by rw [IntKind.wrap_i64]; omega
                  have wb := unhex_or xa xb hAB
                  go_wp2_with fail
                  go_region_law (first
                    | (go_simp; go_at_call_of 74 (Value.int .u8 xa.toNat); refine (CA.out _).mono ?_; rintro e w1 ⟨rfl, rfl⟩)
                    | (go_simp; go_at_call_of 74 (Value.int .u8 xb.toNat); refine (CB.out _).mono ?_; rintro e w1 ⟨rfl, rfl⟩)
                    | (go_simp; go_at_call 43; refine (sbWriteByte w.heap.size w.heap.size _ _ _ (.inr HB2.out.drew) hbl hfr.drew.size).mono ?_; rintro e w2 ⟨rfl, hB3, hf3⟩; replace hB3 := Lib.hid hB3))
                  all_goals
                    go_wp2
                    go_round
                    case rel => exact ⟨k + 3, l ++ [NU.hex2 xa xb], rfl, by omega, by simp; omega, Below.trans hfr.drew hf3, by simpa [Lib.byteCells] using hB3, HS'⟩
                    case measure => first | (simp [intOf]; done) | (simp [intOf]; omega)
                · have hc : ((s[k].toNat : Int) == 37) = false := by simpa using hc
                  have hne : Hid (s[k] ≠ 37) := by show _; intro e; rw [e] at hc; revert hc; decide
                  clear hI2
                  by_cases hp : ((s[k].toNat : Int) == 43) = true
                  · have h43 : s[k] = 43 := by
                      have := u8beq s[k] 43
                      have e : (s[k] == 43) = true := by rw [← this]; exact hp
                      simpa using e
                    have HS' : Hid (NU.dec true (L s) = (NU.dec true ((L s).drop (k + 1))).map ((l ++ [32]) ++ ·)) := by
                      show _ = _
                      rw [HS.out, drop_cons s k hlt, NU.dec_other _ _ _ hne.out, h43]
                      cases NU.dec true ((L s).drop (k + 1)) <;> simp
                    clear h43
                    go_wp2_with (go_at_call 43; refine (sbWriteByte w.heap.size w.heap.size _ _ _ (.inr HB2.out) hbl hfr.size).mono ?_; rintro e w2 ⟨rfl, hB3, hf3⟩; replace hB3 := Lib.hid hB3)
                    go_round
                    case rel => exact ⟨k + 1, l ++ [32], rfl, by omega, by simp; omega, Below.trans hfr hf3, by simpa [Lib.byteCells] using hB3, HS'⟩
                    case measure => first | (simp [intOf]; done) | (simp [intOf]; omega)
                  · have hp : ((s[k].toNat : Int) == 43) = false := by simpa using hp
                    have HS' : Hid (NU.dec true (L s) = (NU.dec true ((L s).drop (k + 1))).map ((l ++ [s[k]]) ++ ·)) := by
                      show _ = _
                      have hne43 : (s[k] == 43) = false := by
                        have := u8beq s[k] 43
                        rw [← this]; exact hp
                      rw [HS.out, drop_cons s k hlt, NU.dec_other _ _ _ hne.out, hne43]
                      cases NU.dec true ((L s).drop (k + 1)) <;> simp
                    go_wp2_with (go_at_call 43; refine (sbWriteByte w.heap.size w.heap.size _ _ _ (.inr HB2.out) hbl hfr.size).mono ?_; rintro e w2 ⟨rfl, hB3, hf3⟩; replace hB3 := Lib.hid hB3)
                    go_round
                    case rel => exact ⟨k + 1, l ++ [s[k]], rfl, by omega, by simp; omega, Below.trans hfr hf3, by simpa [Lib.byteCells] using hB3, HS'⟩
                    case measure => first | (simp [intOf]; done) | (simp [intOf]; omega)
              · have hE : Hid (NU.dec true (L s) = some l) := by show _ = _; rw [HS.out, drop_end s k (by omega)]; simp [NU.dec]
                clear HS
                go_wp2_with (go_at_call 49; refine (sbString w.heap.size w.heap.size l _ (.inr HB2.out) hfr.size).mono ?_; rintro e w2 ⟨rfl, hf3⟩)
                go_ret2
                exact ⟨uns_some hE.out rfl, Below.trans hfr hf3⟩
end Go.Proofs.YtibcegbacnjmfaaGreatDoor
