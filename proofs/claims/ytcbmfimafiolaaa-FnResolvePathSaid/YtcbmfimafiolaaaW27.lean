import Derived.Test.YtcbmfimafiolaaaW3
import Derived.Test.YtcbmfimafiolaaaP11
import Derived.Test.YtcbmfimafiolaaaBlk
namespace Go.Proofs.Ytcbmfimafiolaaa
set_option linter.unusedVariables false
set_option linter.unusedSimpArgs false
open Go.RowKit

set_option maxHeartbeats 1000000 in
theorem rdDrop_any (b : Nat) (o : ByteArray) (w : World) (hs : o.size ≤ 1099511627776) (hb : Hid (Blk w b 9 #[.string o])) :
    Calls Try.prog 52 #[.pointer (some ⟨b, 0, none⟩)] w fun e w' => e = .returned (.tuple #[]) ∧ ∃ n, w' = (w.drewN n).setCell ⟨b, 0, none⟩ (.string (mk (NU.rdDrop (L o)))) := by
  have c0 : w.cell? ⟨b, 0, none⟩ = some (.string o) := hb.out.cell 0
  have f0 : w.frozen? ⟨b, 0, none⟩ = false := hb.out.frozen 0
  go_enter Try.func52, Try.ntmps52
  go_wp2
  go_loopw [1] (fun i wr => ∃ k n : Nat, k ≤ o.size ∧ i = .int .i64 (k : Int) ∧ wr = w.drewN n ∧ Hid (NU.lastIdx 47 (L o) = NU.lastIdx 47 ((L o).take k))) (fun i _ => (intOf i).toNat)
  case atStart => exact ⟨o.size, 0, by omega, rfl, rfl, by show _ = _; rw [List.take_of_length_le (by rw [L_length]; omega)]⟩
  case round =>
    obtain ⟨k, n, hk, rfl, rfl, HS⟩ := hrel
    by_cases h0 : k = 0
    · subst h0
      have HF : Hid (ByteArray.empty = mk (NU.rdDrop (L o))) := by show _ = _; rw [NU.rdDrop, HS.out]; rfl
      clear HS
      go_wp2
      go_end0
      exact ⟨rfl, n, by rw [← HF.out]⟩
    · obtain ⟨m, rfl⟩ : ∃ m, k = m + 1 := ⟨k - 1, by omega⟩
      have hm : m < o.size := by omega
      have HI : Hid (NU.lastIdx 47 ((L o).take (m + 1)) = if o[m] == 47 then (m : Int) else NU.lastIdx 47 ((L o).take m)) := by
        show _ = _
        have e1 : (L o).take (m + 1) = (L o).take m ++ [o[m]] := by
          rw [List.take_succ_eq_append_getElem (by rw [L_length]; exact hm)]; rfl
        have e2 : ((L o).take m).length = m := by rw [List.length_take, L_length]; omega
        rw [e1, NU.lastIdx_snoc, e2]
      have e3 : (((m + 1 : Nat) : Int) - 1) = (m : Int) := by omega
      have e4 : (0 : Int) < ((m + 1 : Nat) : Int) := by omega
      clear h0
      by_cases hc : ((o[m].toNat : Int) != 47) = true
      · have HC : Hid ((o[m] == 47) = false) := by
          show _ = _; rw [← u8_eq]; simpa using hc
        go_wp2
        go_roundw
        case rel => exact ⟨m, n, by omega, by first | rfl | go_num, rfl, by show _ = _; rw [HS.out, HI.out, HC.out]; rfl⟩
        case measure => first | (simp [intOf]; done) | (simp [intOf]; omega)
      · have hc : ((o[m].toNat : Int) != 47) = false := by simpa using hc
        have HC : Hid ((o[m] == 47) = true) := by
          show _ = _; rw [← u8_eq]; simpa using hc
        have HF : Hid (o.extract 0 m = mk (NU.rdDrop (L o))) := by show _ = _; rw [NU.rdDrop, HS.out, HI.out, HC.out, ext_to]; simp
        clear HS HI
        go_wp2
        go_end0
        exact ⟨rfl, n, by rw [← HF.out]⟩


theorem bg_any (t : ByteArray) (l : List UInt8) (b : Bool) (ht : t.size ≤ 1099511627776) (hl : l.length ≤ 10) (h : NU.begins (L t) l = b) (w : World) :
    Calls Try.prog 28 #[.string t, .string ⟨l.toArray⟩] w fun e w' => e = .returned (.bool b) ∧ w = w' := by
  refine (begins_any t ⟨l.toArray⟩ w ht (by show l.toArray.size ≤ _; simp; omega)).mono ?_
  rintro e w' ⟨rfl, rfl⟩
  exact ⟨ret_bool h, rfl⟩
theorem begins_len {s p : List UInt8} (h : NU.begins s p = true) : p.length ≤ s.length := (List.isPrefixOf_iff_prefix.1 h).length_le

theorem rdDrop_size (o : ByteArray) : (mk (NU.rdDrop (L o))).size ≤ o.size := by rw [mk_size, NU.rdDrop, List.length_take, L_length]; omega
theorem rdDrop_call (o : ByteArray) (w0 : World) (ho : o.size ≤ 1099511627776) (wr : World) (hfr : Fr w0 wr) (HB : Hid (Blk wr w0.heap.size 9 #[.string o])) :
    Calls Try.prog 52 #[.pointer (some ⟨w0.heap.size, 0, none⟩)] wr fun e w' => e = .returned (.tuple #[]) ∧ Fr w0 w' ∧ Hid (Blk w' w0.heap.size 9 #[.string (mk (NU.rdDrop (L o)))]) := by
  refine (rdDrop_any _ o wr ho HB).mono ?_
  rintro e w' ⟨rfl, n, rfl⟩
  exact ⟨rfl, (hfr.drewN n).setCell (Nat.le_refl _) _, (HB.out.drewN n).set_ 0 _⟩
theorem idx1_any (t : ByteArray) (i : Nat) (ht : t.size ≤ 1099511627776) (h : NU.index ((L t).drop 1) [47] = i) (w : World) :
    Calls Try.prog 27 #[.string (t.extract 1 t.size), .string ⟨#[47]⟩] w fun e w' => e = .returned (.int .i64 (i : Int)) ∧ ∃ n, w' = w.drewN n := by
  refine (index_any (t.extract 1 t.size) ⟨#[47]⟩ w (by rw [ext_from, mk_size, List.length_drop, L_length]; omega) (by show (1 : Nat) ≤ 1099511627776; omega)).mono ?_
  rintro e w' ⟨rfl, hq⟩
  refine ⟨ret_int ?_, hq⟩
  rw [ext_from, L_mk, show L ⟨#[47]⟩ = [47] from rfl, h]
theorem rd_next {t t2 : ByteArray} {f : Nat} {o o2 s : List UInt8} (HS : Hid (NU.removeDots s = NU.rd (f + 1) (L t) o)) (h0 : ¬ L t = []) (h : NU.rdStep (L t) o = (L t2, o2)) :
    Hid (NU.removeDots s = NU.rd f (L t2) o2) := by
  show _ = _
  rw [HS.out, NU.rd, if_neg h0, h]

set_option maxHeartbeats 4000000 in
theorem RemoveDots_any (s : ByteArray) (w : World) (hs : s.size ≤ 1099511627776) :
    Calls Try.prog 41 #[.string s] w fun e w' => e = .returned (.string (mk (NU.removeDots (L s)))) ∧ Fr w w' := by
  go_enter Try.func41, Try.ntmps41
  go_wp2
  go_loopw [0] (fun i wr => ∃ (t o : ByteArray) (f : Nat), i = .string t ∧ t.size + o.size ≤ s.size ∧ t.size < f ∧ Fr w wr ∧ Hid (Blk wr w.heap.size 9 #[.string o]) ∧ Hid (NU.removeDots (L s) = NU.rd f (L t) (L o))) (fun i _ => match i with | .string t => t.size | _ => 0)
  case atStart => exact ⟨s, ⟨#[]⟩, s.size + 1, rfl, by show s.size + 0 ≤ s.size; omega, by omega, by first | exact (Fr.refl _).alloc _ | exact ((Fr.refl _).alloc _).setCell (Nat.le_refl _) _, by first | exact Blk.new _ _ _ | exact (Blk.new _ _ _).set_ 0 _, by show _ = _; rw [NU.removeDots, L_length]⟩
  case round =>
    obtain ⟨t, o, f, rfl, hto, hf, hfr, HB, HS⟩ := hrel
    obtain ⟨f, rfl⟩ : ∃ g, f = g + 1 := ⟨f - 1, by omega⟩
    have ht : t.size ≤ 1099511627776 := by omega
    have ho : o.size ≤ 1099511627776 := by omega
    by_cases h0 : L t = []
    · have he : t.toList = [] := by rw [Lib.toList_data]; exact h0
      have HF : Hid (o = mk (NU.removeDots (L s))) := by show _ = _; rw [HS.out, NU.rd, if_pos h0, mk_L]
      have c0 : wr.cell? ⟨w.heap.size, 0, none⟩ = some (.string o) := HB.out.cell 0
      clear HS h0
      go_wp2
      go_ret
      exact ⟨ret_str HF.out, hfr⟩
    · have he : ¬ t.toList = [] := by rw [Lib.toList_data]; exact h0
      have he' : t.toList.isEmpty = false := by simpa using he
      have h00 := Lib.hid h0
      have htl := L_length t
      have CD := Lib.hid (rdDrop_call o w ho)
      cases b1 : NU.begins (L t) [46, 46, 47]
      case true =>
        have C1 := Lib.hid (bg_any t _ _ ht (by simp) b1)
        have hz := begins_len b1
        rw [htl] at hz
        simp only [List.length_cons, List.length_nil] at hz
        have HN := rd_next (t2 := t.extract 3 t.size) (o2 := L o) HS h00.out (by simp [NU.rdStep, b1, ext_from, L_mk])
        have hsz : (t.extract 3 t.size).size = t.size - 3 := by rw [ext_from, mk_size, List.length_drop, htl]
        have HZ := Lib.hid hsz
        clear hsz HS h0 htl b1
        go_wp2_with (first
          | (go_at_call 28; (with_reducible refine (C1.out _).mono ?_); rintro e w' ⟨rfl, rfl⟩))
        go_roundw
        case rel => exact ⟨_, o, f, rfl, by rw [HZ.out]; omega, by rw [HZ.out]; omega, hfr, HB, HN⟩
        case measure => simp only []; rw [HZ.out]; omega
      case false =>
        have C1 := Lib.hid (bg_any t _ _ ht (by simp) b1)
        cases b2 : NU.begins (L t) [46, 47]
        case true =>
          have C2 := Lib.hid (bg_any t _ _ ht (by simp) b2)
          have hz := begins_len b2
          rw [htl] at hz
          simp only [List.length_cons, List.length_nil] at hz
          have HN := rd_next (t2 := t.extract 2 t.size) (o2 := L o) HS h00.out (by simp [NU.rdStep, b1, b2, ext_from, L_mk])
          have hsz : (t.extract 2 t.size).size = t.size - 2 := by rw [ext_from, mk_size, List.length_drop, htl]
          have HZ := Lib.hid hsz
          clear hsz HS h0 htl b1 b2
          go_wp2_with (first
            | (go_at_call 28; (with_reducible refine (C1.out _).mono ?_); rintro e w' ⟨rfl, rfl⟩)
            | (go_at_call 28; (with_reducible refine (C2.out _).mono ?_); rintro e w' ⟨rfl, rfl⟩))
          go_roundw
          case rel => exact ⟨_, o, f, rfl, by rw [HZ.out]; omega, by rw [HZ.out]; omega, hfr, HB, HN⟩
          case measure => simp only []; rw [HZ.out]; omega
        case false =>
          have C2 := Lib.hid (bg_any t _ _ ht (by simp) b2)
          cases b3 : NU.begins (L t) [47, 46, 47]
          case true =>
            have C3 := Lib.hid (bg_any t _ _ ht (by simp) b3)
            have hz := begins_len b3
            rw [htl] at hz
            simp only [List.length_cons, List.length_nil] at hz
            have HN := rd_next (t2 := t.extract 2 t.size) (o2 := L o) HS h00.out (by simp [NU.rdStep, b1, b2, b3, ext_from, L_mk])
            have hsz : (t.extract 2 t.size).size = t.size - 2 := by rw [ext_from, mk_size, List.length_drop, htl]
            have HZ := Lib.hid hsz
            clear hsz HS h0 htl b1 b2 b3
            go_wp2_with (first
              | (go_at_call 28; (with_reducible refine (C1.out _).mono ?_); rintro e w' ⟨rfl, rfl⟩)
              | (go_at_call 28; (with_reducible refine (C2.out _).mono ?_); rintro e w' ⟨rfl, rfl⟩)
              | (go_at_call 28; (with_reducible refine (C3.out _).mono ?_); rintro e w' ⟨rfl, rfl⟩))
            go_roundw
            case rel => exact ⟨_, o, f, rfl, by rw [HZ.out]; omega, by rw [HZ.out]; omega, hfr, HB, HN⟩
            case measure => simp only []; rw [HZ.out]; omega
          case false =>
            have C3 := Lib.hid (bg_any t _ _ ht (by simp) b3)
            by_cases e1 : L t = [47, 46]
            · have qe1 := eq_lits t _ e1
              have hz : t.size = 2 := by rw [← htl, e1]; rfl
              have HN := rd_next (t2 := ⟨#[47]⟩) (o2 := L o) HS h00.out (by rw [e1]; rfl)
              clear HS h0 htl b1 b2 b3 e1
              go_wp2_with (first
                | (go_at_call 28; (with_reducible refine (C1.out _).mono ?_); rintro e w' ⟨rfl, rfl⟩)
                | (go_at_call 28; (with_reducible refine (C2.out _).mono ?_); rintro e w' ⟨rfl, rfl⟩)
                | (go_at_call 28; (with_reducible refine (C3.out _).mono ?_); rintro e w' ⟨rfl, rfl⟩))
              go_roundw
              case rel => exact ⟨_, o, f, rfl, by show 1 + _ ≤ _; omega, by show 1 < f; omega, hfr, HB, HN⟩
              case measure => show 1 < t.size; omega
            · have qe1 := ne_lits t _ e1
              cases b4 : NU.begins (L t) [47, 46, 46, 47]
              case true =>
                have C4 := Lib.hid (bg_any t _ _ ht (by simp) b4)
                have hz := begins_len b4
                rw [htl] at hz
                simp only [List.length_cons, List.length_nil] at hz
                have HN := rd_next (t2 := t.extract 3 t.size) (o2 := NU.rdDrop (L o)) HS h00.out (by simp [NU.rdStep, b1, b2, b3, e1, b4, ext_from, L_mk])
                have hsz : (t.extract 3 t.size).size = t.size - 3 := by rw [ext_from, mk_size, List.length_drop, htl]
                have HZ := Lib.hid hsz
                clear hsz HS h0 htl b1 b2 b3 e1 b4
                go_wp2_with (first
                  | (go_at_call 28; (with_reducible refine (C1.out _).mono ?_); rintro e w' ⟨rfl, rfl⟩)
                  | (go_at_call 28; (with_reducible refine (C2.out _).mono ?_); rintro e w' ⟨rfl, rfl⟩)
                  | (go_at_call 28; (with_reducible refine (C3.out _).mono ?_); rintro e w' ⟨rfl, rfl⟩)
                  | (go_at_call 28; (with_reducible refine (C4.out _).mono ?_); rintro e w' ⟨rfl, rfl⟩)
                  | (go_at_call 52; (with_reducible refine (CD.out _ hfr HB).mono ?_); rintro e w1 ⟨rfl, hfr1, HB1⟩))
                go_roundw
                case rel => exact ⟨_, mk (NU.rdDrop (L o)), f, rfl, by rw [HZ.out]; have := rdDrop_size o; omega, by rw [HZ.out]; omega, hfr1, HB1, HN⟩
                case measure => simp only []; rw [HZ.out]; omega
              case false =>
                have C4 := Lib.hid (bg_any t _ _ ht (by simp) b4)
                by_cases e2 : L t = [47, 46, 46]
                · have qe2 := eq_lits t _ e2
                  have hz : t.size = 3 := by rw [← htl, e2]; rfl
                  have HN := rd_next (t2 := ⟨#[47]⟩) (o2 := NU.rdDrop (L o)) HS h00.out (by rw [e2]; rfl)
                  clear HS h0 htl b1 b2 b3 e1 b4 e2
                  go_wp2_with (first
                    | (go_at_call 28; (with_reducible refine (C1.out _).mono ?_); rintro e w' ⟨rfl, rfl⟩)
                    | (go_at_call 28; (with_reducible refine (C2.out _).mono ?_); rintro e w' ⟨rfl, rfl⟩)
                    | (go_at_call 28; (with_reducible refine (C3.out _).mono ?_); rintro e w' ⟨rfl, rfl⟩)
                    | (go_at_call 28; (with_reducible refine (C4.out _).mono ?_); rintro e w' ⟨rfl, rfl⟩)
                    | (go_at_call 52; (with_reducible refine (CD.out _ hfr HB).mono ?_); rintro e w1 ⟨rfl, hfr1, HB1⟩))
                  go_roundw
                  case rel => exact ⟨_, mk (NU.rdDrop (L o)), f, rfl, by show 1 + _ ≤ _; have := rdDrop_size o; omega, by show 1 < f; omega, hfr1, HB1, HN⟩
                  case measure => show 1 < t.size; omega
                · have qe2 := ne_lits t _ e2
                  by_cases e3 : L t = [46]
                  · have qe3 := eq_lits t _ e3
                    have hz : t.size = 1 := by rw [← htl, e3]; rfl
                    have HN := rd_next (t2 := ⟨#[]⟩) (o2 := L o) HS h00.out (by rw [e3]; rfl)
                    clear HS h0 htl b1 b2 b3 e1 b4 e2 e3
                    go_wp2_with (first
                      | (go_at_call 28; (with_reducible refine (C1.out _).mono ?_); rintro e w' ⟨rfl, rfl⟩)
                      | (go_at_call 28; (with_reducible refine (C2.out _).mono ?_); rintro e w' ⟨rfl, rfl⟩)
                      | (go_at_call 28; (with_reducible refine (C3.out _).mono ?_); rintro e w' ⟨rfl, rfl⟩)
                      | (go_at_call 28; (with_reducible refine (C4.out _).mono ?_); rintro e w' ⟨rfl, rfl⟩))
                    go_roundw
                    case rel => exact ⟨_, o, f, rfl, by show 0 + _ ≤ _; omega, by show 0 < f; omega, hfr, HB, HN⟩
                    case measure => show 0 < t.size; omega
                  · have qe3 := ne_lits t _ e3
                    by_cases e4 : L t = [46, 46]
                    · have qe4 := eq_lits t _ e4
                      have hz : t.size = 2 := by rw [← htl, e4]; rfl
                      have HN := rd_next (t2 := ⟨#[]⟩) (o2 := L o) HS h00.out (by rw [e4]; rfl)
                      clear HS h0 htl b1 b2 b3 e1 b4 e2 e3 e4
                      go_wp2_with (first
                        | (go_at_call 28; (with_reducible refine (C1.out _).mono ?_); rintro e w' ⟨rfl, rfl⟩)
                        | (go_at_call 28; (with_reducible refine (C2.out _).mono ?_); rintro e w' ⟨rfl, rfl⟩)
                        | (go_at_call 28; (with_reducible refine (C3.out _).mono ?_); rintro e w' ⟨rfl, rfl⟩)
                        | (go_at_call 28; (with_reducible refine (C4.out _).mono ?_); rintro e w' ⟨rfl, rfl⟩))
                      go_roundw
                      case rel => exact ⟨_, o, f, rfl, by show 0 + _ ≤ _; omega, by show 0 < f; omega, hfr, HB, HN⟩
                      case measure => show 0 < t.size; omega
                    · have qe4 := ne_lits t _ e4
                      have hile := NU.index_le ((L t).drop 1) [47]
                      rw [List.length_drop, htl] at hile
                      obtain ⟨i, hi⟩ : ∃ i, i = NU.index ((L t).drop 1) [47] := ⟨_, rfl⟩
                      rw [← hi] at hile
                      have CI := Lib.hid (idx1_any t i ht hi.symm)
                      have hz : 1 ≤ t.size := by rcases Nat.eq_zero_or_pos t.size with h | h; exact absurd (List.eq_nil_of_length_eq_zero (by rw [htl]; exact h)) h00.out; exact h
                      have HN := rd_next (t2 := t.extract (1 + i) t.size) (o2 := L (o ++ t.extract 0 (1 + i))) HS h00.out (by
                        rw [ext_from, L_mk, ext_to, L_app, L_mk]; have hi2 : NU.index (L t).tail [47] = i := by rw [hi, List.drop_one]
                        simp [NU.rdStep, b1, b2, b3, e1, b4, e2, e3, e4, hi2])
                      have HZ : Hid ((t.extract (1 + i) t.size).size = t.size - (1 + i) ∧ (o ++ t.extract 0 (1 + i)).size = o.size + (1 + i)) := by
                        constructor
                        · rw [ext_from, mk_size, List.length_drop, htl]
                        · rw [ByteArray.size_append, ext_to, mk_size, List.length_take, htl, Nat.min_eq_left (by omega)]
                      have c0 : wr.cell? ⟨w.heap.size, 0, none⟩ = some (.string o) := HB.out.cell 0
                      have f0 : wr.frozen? ⟨w.heap.size, 0, none⟩ = false := HB.out.frozen 0
                      have hb := HB.out.lt
                      clear HS h0 htl hi b1 b2 b3 e1 b4 e2 e3 e4
                      go_wp2_with (first
                          | (go_at_call 28; (with_reducible refine (C1.out _).mono ?_); rintro e w' ⟨rfl, rfl⟩)
                          | (go_at_call 28; (with_reducible refine (C2.out _).mono ?_); rintro e w' ⟨rfl, rfl⟩)
                          | (go_at_call 28; (with_reducible refine (C3.out _).mono ?_); rintro e w' ⟨rfl, rfl⟩)
                          | (go_at_call 28; (with_reducible refine (C4.out _).mono ?_); rintro e w' ⟨rfl, rfl⟩)
                          | (go_at_call 27; (with_reducible refine (CI.out _).mono ?_); rintro e w1 ⟨rfl, nq, rfl⟩))
                      go_region
                      all_goals go_wp2
                      all_goals go_roundw
                      all_goals first
                        | (case rel => exact ⟨_, _, f, rfl, by rw [HZ.out.1, HZ.out.2]; omega, by rw [HZ.out.1]; omega, (hfr.drewN _).setCell (Nat.le_refl _) _, (HB.out.drewN _).set_ 0 _, HN⟩)
                        | (simp only []; rw [HZ.out.1]; omega)
end Go.Proofs.Ytcbmfimafiolaaa
