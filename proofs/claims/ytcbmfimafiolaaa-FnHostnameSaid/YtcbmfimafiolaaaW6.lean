import Derived.Test.YtcbmfimafiolaaaW5
namespace Go.Proofs.Ytcbmfimafiolaaa
set_option linter.unusedVariables false
set_option linter.unusedSimpArgs false
open Go.RowKit

theorem drewN_ex (w : World) (a b : Nat) : ∃ n, (w.drewN a).drewN b = w.drewN n := ⟨_, World.drewN_drewN _ _ _⟩
theorem nil_of_empty {s : ByteArray} (h : s.toList = []) : L s = [] := by rw [← h, Lib.toList_data]
def strSize : Value → Nat
  | .string t => t.size
  | _ => 0
theorem isHex_true {c : UInt8} (h : 0 ≤ NU.hexv c) : NU.isHex c = true := by simp [NU.isHex, h]
theorem isHex_false {c : UInt8} (h : NU.hexv c < 0) : NU.isHex c = false := by simp [NU.isHex, h]

set_option maxHeartbeats 2000000 in
theorem pieces_false (s : ByteArray) (w : World) (hs : s.size ≤ 1099511627776) :
    Calls Try.prog 49 #[.string s, .bool false] w fun e w' => e = .returned (.int .i64 (NU.pieces (L s) false)) ∧ ∃ n, w' = w.drewN n := by
  by_cases h0 : L s = []
  · have he : s.toList = [] := by rw [Lib.toList_data]; exact h0
    have HF : Hid (NU.pieces (L s) false = 0) := by show _ = _; rw [NU.pieces, if_pos h0]
    clear h0
    go_enter Try.func49, Try.ntmps49
    go_wp2
    go_ret
    exact ⟨ret_int HF.out.symm, 0, rfl⟩
  · have he : ¬ s.toList = [] := by rw [Lib.toList_data]; exact h0
    have he' : s.toList.isEmpty = false := by simpa using he
    have HF : Hid (NU.pieces (L s) false = NU.pcs false (s.size + 1) 0 (L s)) := by show _ = _; rw [NU.pieces, if_neg h0, L_length]
    clear h0
    go_enter Try.func49, Try.ntmps49
    go_wp2
    clear he he'
    go_loopw [0, 5] (fun v c wr => ∃ (f n q : Nat) (t : ByteArray), t.size < f ∧ n + t.size ≤ s.size ∧ c = .int .i64 (n : Int) ∧ v = .string t ∧ wr = w.drewN q ∧ Hid (NU.pieces (L s) false = NU.pcs false f n (L t))) (fun v _ _ => strSize v)
    case atStart => exact ⟨s.size + 1, 0, 0, s, by omega, by omega, rfl, rfl, rfl, HF⟩
    case round =>
      obtain ⟨f, n, q, t, hf, hn, rfl, rfl, rfl, HS⟩ := hrel
      obtain ⟨f, rfl⟩ : ∃ g, f = g + 1 := ⟨f - 1, by omega⟩
      have ht : t.size ≤ 1099511627776 := by omega
      have hile := NU.index_le (L t) [58]
      rw [L_length] at hile
      obtain ⟨i, hi⟩ : ∃ i, i = NU.index (L t) [58] := ⟨_, rfl⟩
      rw [← hi] at hile
      obtain ⟨p, hp⟩ : ∃ p, p = t.extract 0 i := ⟨_, rfl⟩
      have hpz0 : p.size = i := by rw [hp, ext_to, size_take _ _ hile]
      have HP : Hid (L p = (L t).take i) := by show _ = _; rw [hp, ext_to, L_mk]
      have HI : Hid (i = NU.index (L t) [58]) := hi
      have HU : Hid (NU.pcs false (f + 1) n (L t) = if i = t.size ∧ false = true ∧ NU.isIPv4 (L p) = true then (n : Int) + 2
          else if i = 0 ∨ 4 < i then -1 else if (L p).all NU.isHex = false then -1 else if i = t.size then (n : Int) + 1 else NU.pcs false f (n + 1) ((L t).drop (i + 1))) := by
        show _ = _
        rw [NU.pcs, ← hi, L_length, HP.out]
      have hp' := hp.symm
      have hpz1 : p.size ≤ i := by omega
      have hpz2 : i ≤ p.size := by omega
      have hpz : p.size ≤ 1099511627776 := by omega
      clear hi hp hpz0
      by_cases hit : i < t.size
      · have hc1 : ((i : Int) == (t.size : Int)) = false := beq_eq_false_iff_ne.2 (by omega)
        have hc2 : (i == t.size) = false := beq_eq_false_iff_ne.2 (by omega)
        have HR : Hid (NU.pcs false (f + 1) n (L t) = if i = 0 ∨ 4 < i then -1 else if (L p).all NU.isHex = false then -1 else if i = t.size then (n : Int) + 1 else NU.pcs false f (n + 1) ((L t).drop (i + 1))) := by
          show _ = _; rw [HU.out, if_neg (fun h => Nat.lt_irrefl _ (h.1 ▸ hit))]
        clear HU
        by_cases hz : i = 0 ∨ 4 < i
        · have HR' : Hid (NU.pcs false (f + 1) n (L t) = -1) := by show _ = _; rw [HR.out, if_pos hz]
          clear HR
          rcases hz with hz | hz
          · have hz0 : p.size ≤ 0 := by omega
            have hz1 : ((p.size : Int) == 0) = true := beq_iff_eq.2 (by omega)
            clear hz
            go_wp2_with (first | (go_at_call 27; refine (index_any _ _ _ (by assumption) (by show (1 : Nat) ≤ 1099511627776; omega)).mono ?_; rintro e w' ⟨rfl, n1, rfl⟩; rw [show L { data := #[58] } = [58] from rfl, ← HI.out]) | (go_at_call 58; refine (isIPv4_any _ _ hpz).mono ?_; rintro e w' ⟨rfl, n2, rfl⟩))
            go_ret
            exact ⟨ret_int (by rw [HS.out, HR'.out]), by first | exact ⟨_, rfl⟩ | exact drewN_ex _ _ _⟩
          · have hz1 : ((p.size : Int) == 0) = false := beq_eq_false_iff_ne.2 (by omega)
            have hz2 : 4 < p.size := by omega
            clear hz
            go_wp2_with (first | (go_at_call 27; refine (index_any _ _ _ (by assumption) (by show (1 : Nat) ≤ 1099511627776; omega)).mono ?_; rintro e w' ⟨rfl, n1, rfl⟩; rw [show L { data := #[58] } = [58] from rfl, ← HI.out]) | (go_at_call 58; refine (isIPv4_any _ _ hpz).mono ?_; rintro e w' ⟨rfl, n2, rfl⟩))
            go_ret
            exact ⟨ret_int (by rw [HS.out, HR'.out]), by first | exact ⟨_, rfl⟩ | exact drewN_ex _ _ _⟩
        · have hz1 : ((p.size : Int) == 0) = false := beq_eq_false_iff_ne.2 (by omega)
          have hz2 : p.size ≤ 4 := by omega
          have hz3 : 1 ≤ i := by omega
          have hz4 : i ≤ 4 := by omega
          clear hz
          go_wp2_with (first | (go_at_call 27; refine (index_any _ _ _ (by assumption) (by show (1 : Nat) ≤ 1099511627776; omega)).mono ?_; rintro e w' ⟨rfl, n1, rfl⟩; rw [show L { data := #[58] } = [58] from rfl, ← HI.out]) | (go_at_call 58; refine (isIPv4_any _ _ hpz).mono ?_; rintro e w' ⟨rfl, n2, rfl⟩))
          go_loop [39] (fun j => ∃ (m : Nat), m ≤ p.size ∧ j = .int .i64 (m : Int) ∧ Hid ((L p).all NU.isHex = ((L p).drop m).all NU.isHex)) (fun j => p.size - (intOf j).toNat)
          case atStart => exact ⟨0, by omega, rfl, rfl⟩
          case round =>
            obtain ⟨m, hm, rfl, HA⟩ := hrel
            by_cases hmp : m < p.size
            · have HD : Hid (((L p).drop m).all NU.isHex = (NU.isHex p[m] && ((L p).drop (m + 1)).all NU.isHex)) := by show _ = _; rw [drop_cons p m hmp, List.all_cons]
              by_cases hx : NU.hexv p[m] < 0
              · have hx' := isHex_false hx
                go_wp2_with (go_at_call 45; refine (hex_any _ _).mono ?_; rintro e w' ⟨rfl, rfl⟩)
                go_ret
                exact ⟨ret_int (by rw [HS.out, HR.out, if_neg (by omega), HA.out, HD.out, hx']; rfl), by first | exact ⟨_, rfl⟩ | exact drewN_ex _ _ _⟩
              · have hx1 : 0 ≤ NU.hexv p[m] := by omega
                have hx' := isHex_true hx1
                go_wp2_with (go_at_call 45; refine (hex_any _ _).mono ?_; rintro e w' ⟨rfl, rfl⟩)
                go_round
                case rel => exact ⟨m + 1, by omega, by go_num, by show _ = _; rw [HA.out, HD.out, hx']; rfl⟩
                case measure => simp [intOf]; omega
            · have HA' : Hid ((L p).all NU.isHex = true) := by show _ = _; rw [HA.out, drop_end p m (by omega)]; rfl
              clear HA
              go_wp2
              go_roundw
              case rel => exact ⟨f, n + 1, _, t.extract (i + 1) t.size, by rw [ext_from, mk_size, List.length_drop, L_length]; omega, by rw [ext_from, mk_size, List.length_drop, L_length]; omega, by go_num, rfl, rfl, by show _ = _; rw [HS.out, HR.out, if_neg (by omega), HA'.out, if_neg (by simp), if_neg (by omega), ext_from, L_mk]⟩
              case measure => simp only [strSize]; rw [ext_from, mk_size, List.length_drop, L_length]; omega
      · have hc1 : ((i : Int) == (t.size : Int)) = true := beq_iff_eq.2 (by omega)
        have hc2 : (i == t.size) = true := beq_iff_eq.2 (by omega)
        have HR : Hid (NU.pcs false (f + 1) n (L t) = if i = 0 ∨ 4 < i then -1 else if (L p).all NU.isHex = false then -1 else if i = t.size then (n : Int) + 1 else NU.pcs false f (n + 1) ((L t).drop (i + 1))) := by
          show _ = _; rw [HU.out, if_neg (fun h => Bool.false_ne_true h.2.1)]
        clear HU
        by_cases hz : i = 0 ∨ 4 < i
        · have HR' : Hid (NU.pcs false (f + 1) n (L t) = -1) := by show _ = _; rw [HR.out, if_pos hz]
          clear HR
          rcases hz with hz | hz
          · have hz0 : p.size ≤ 0 := by omega
            have hz1 : ((p.size : Int) == 0) = true := beq_iff_eq.2 (by omega)
            clear hz
            go_wp2_with (first | (go_at_call 27; refine (index_any _ _ _ (by assumption) (by show (1 : Nat) ≤ 1099511627776; omega)).mono ?_; rintro e w' ⟨rfl, n1, rfl⟩; rw [show L { data := #[58] } = [58] from rfl, ← HI.out]) | (go_at_call 58; refine (isIPv4_any _ _ hpz).mono ?_; rintro e w' ⟨rfl, n2, rfl⟩))
            go_ret
            exact ⟨ret_int (by rw [HS.out, HR'.out]), by first | exact ⟨_, rfl⟩ | exact drewN_ex _ _ _⟩
          · have hz1 : ((p.size : Int) == 0) = false := beq_eq_false_iff_ne.2 (by omega)
            have hz2 : 4 < p.size := by omega
            clear hz
            go_wp2_with (first | (go_at_call 27; refine (index_any _ _ _ (by assumption) (by show (1 : Nat) ≤ 1099511627776; omega)).mono ?_; rintro e w' ⟨rfl, n1, rfl⟩; rw [show L { data := #[58] } = [58] from rfl, ← HI.out]) | (go_at_call 58; refine (isIPv4_any _ _ hpz).mono ?_; rintro e w' ⟨rfl, n2, rfl⟩))
            go_ret
            exact ⟨ret_int (by rw [HS.out, HR'.out]), by first | exact ⟨_, rfl⟩ | exact drewN_ex _ _ _⟩
        · have hz1 : ((p.size : Int) == 0) = false := beq_eq_false_iff_ne.2 (by omega)
          have hz2 : p.size ≤ 4 := by omega
          have hz3 : 1 ≤ i := by omega
          have hz4 : i ≤ 4 := by omega
          clear hz
          go_wp2_with (first | (go_at_call 27; refine (index_any _ _ _ (by assumption) (by show (1 : Nat) ≤ 1099511627776; omega)).mono ?_; rintro e w' ⟨rfl, n1, rfl⟩; rw [show L { data := #[58] } = [58] from rfl, ← HI.out]) | (go_at_call 58; refine (isIPv4_any _ _ hpz).mono ?_; rintro e w' ⟨rfl, n2, rfl⟩))
          go_loop [39] (fun j => ∃ (m : Nat), m ≤ p.size ∧ j = .int .i64 (m : Int) ∧ Hid ((L p).all NU.isHex = ((L p).drop m).all NU.isHex)) (fun j => p.size - (intOf j).toNat)
          case atStart => exact ⟨0, by omega, rfl, rfl⟩
          case round =>
            obtain ⟨m, hm, rfl, HA⟩ := hrel
            by_cases hmp : m < p.size
            · have HD : Hid (((L p).drop m).all NU.isHex = (NU.isHex p[m] && ((L p).drop (m + 1)).all NU.isHex)) := by show _ = _; rw [drop_cons p m hmp, List.all_cons]
              by_cases hx : NU.hexv p[m] < 0
              · have hx' := isHex_false hx
                go_wp2_with (go_at_call 45; refine (hex_any _ _).mono ?_; rintro e w' ⟨rfl, rfl⟩)
                go_ret
                exact ⟨ret_int (by rw [HS.out, HR.out, if_neg (by omega), HA.out, HD.out, hx']; rfl), by first | exact ⟨_, rfl⟩ | exact drewN_ex _ _ _⟩
              · have hx1 : 0 ≤ NU.hexv p[m] := by omega
                have hx' := isHex_true hx1
                go_wp2_with (go_at_call 45; refine (hex_any _ _).mono ?_; rintro e w' ⟨rfl, rfl⟩)
                go_round
                case rel => exact ⟨m + 1, by omega, by go_num, by show _ = _; rw [HA.out, HD.out, hx']; rfl⟩
                case measure => simp [intOf]; omega
            · have HA' : Hid ((L p).all NU.isHex = true) := by show _ = _; rw [HA.out, drop_end p m (by omega)]; rfl
              clear HA
              have h9 : (i : Int) = t.size := by omega
              go_wp2
              go_ret
              exact ⟨ret_int (by rw [HS.out, HR.out, if_neg (by omega), HA'.out, if_neg (by simp), if_pos (by omega)]), by first | exact ⟨_, rfl⟩ | exact drewN_ex _ _ _⟩

set_option maxHeartbeats 2000000 in
theorem pieces_true (s : ByteArray) (w : World) (hs : s.size ≤ 1099511627776) :
    Calls Try.prog 49 #[.string s, .bool true] w fun e w' => e = .returned (.int .i64 (NU.pieces (L s) true)) ∧ ∃ n, w' = w.drewN n := by
  by_cases h0 : L s = []
  · have he : s.toList = [] := by rw [Lib.toList_data]; exact h0
    have HF : Hid (NU.pieces (L s) true = 0) := by show _ = _; rw [NU.pieces, if_pos h0]
    clear h0
    go_enter Try.func49, Try.ntmps49
    go_wp2
    go_ret
    exact ⟨ret_int HF.out.symm, 0, rfl⟩
  · have he : ¬ s.toList = [] := by rw [Lib.toList_data]; exact h0
    have he' : s.toList.isEmpty = false := by simpa using he
    have HF : Hid (NU.pieces (L s) true = NU.pcs true (s.size + 1) 0 (L s)) := by show _ = _; rw [NU.pieces, if_neg h0, L_length]
    clear h0
    go_enter Try.func49, Try.ntmps49
    go_wp2
    clear he he'
    go_loopw [0, 5] (fun v c wr => ∃ (f n q : Nat) (t : ByteArray), t.size < f ∧ n + t.size ≤ s.size ∧ c = .int .i64 (n : Int) ∧ v = .string t ∧ wr = w.drewN q ∧ Hid (NU.pieces (L s) true = NU.pcs true f n (L t))) (fun v _ _ => strSize v)
    case atStart => exact ⟨s.size + 1, 0, 0, s, by omega, by omega, rfl, rfl, rfl, HF⟩
    case round =>
      obtain ⟨f, n, q, t, hf, hn, rfl, rfl, rfl, HS⟩ := hrel
      obtain ⟨f, rfl⟩ : ∃ g, f = g + 1 := ⟨f - 1, by omega⟩
      have ht : t.size ≤ 1099511627776 := by omega
      have hile := NU.index_le (L t) [58]
      rw [L_length] at hile
      obtain ⟨i, hi⟩ : ∃ i, i = NU.index (L t) [58] := ⟨_, rfl⟩
      rw [← hi] at hile
      obtain ⟨p, hp⟩ : ∃ p, p = t.extract 0 i := ⟨_, rfl⟩
      have hpz0 : p.size = i := by rw [hp, ext_to, size_take _ _ hile]
      have HP : Hid (L p = (L t).take i) := by show _ = _; rw [hp, ext_to, L_mk]
      have HI : Hid (i = NU.index (L t) [58]) := hi
      have HU : Hid (NU.pcs true (f + 1) n (L t) = if i = t.size ∧ true = true ∧ NU.isIPv4 (L p) = true then (n : Int) + 2
          else if i = 0 ∨ 4 < i then -1 else if (L p).all NU.isHex = false then -1 else if i = t.size then (n : Int) + 1 else NU.pcs true f (n + 1) ((L t).drop (i + 1))) := by
        show _ = _
        rw [NU.pcs, ← hi, L_length, HP.out]
      have hp' := hp.symm
      have hpz1 : p.size ≤ i := by omega
      have hpz2 : i ≤ p.size := by omega
      have hpz : p.size ≤ 1099511627776 := by omega
      clear hi hp hpz0
      by_cases hit : i < t.size
      · have hc1 : ((i : Int) == (t.size : Int)) = false := beq_eq_false_iff_ne.2 (by omega)
        have hc2 : (i == t.size) = false := beq_eq_false_iff_ne.2 (by omega)
        have HR : Hid (NU.pcs true (f + 1) n (L t) = if i = 0 ∨ 4 < i then -1 else if (L p).all NU.isHex = false then -1 else if i = t.size then (n : Int) + 1 else NU.pcs true f (n + 1) ((L t).drop (i + 1))) := by
          show _ = _; rw [HU.out, if_neg (fun h => Nat.lt_irrefl _ (h.1 ▸ hit))]
        clear HU
        by_cases hz : i = 0 ∨ 4 < i
        · have HR' : Hid (NU.pcs true (f + 1) n (L t) = -1) := by show _ = _; rw [HR.out, if_pos hz]
          clear HR
          rcases hz with hz | hz
          · have hz0 : p.size ≤ 0 := by omega
            have hz1 : ((p.size : Int) == 0) = true := beq_iff_eq.2 (by omega)
            clear hz
            go_wp2_with (first | (go_at_call 27; refine (index_any _ _ _ (by assumption) (by show (1 : Nat) ≤ 1099511627776; omega)).mono ?_; rintro e w' ⟨rfl, n1, rfl⟩; rw [show L { data := #[58] } = [58] from rfl, ← HI.out]) | (go_at_call 58; refine (isIPv4_any _ _ hpz).mono ?_; rintro e w' ⟨rfl, n2, rfl⟩))
            go_ret
            exact ⟨ret_int (by rw [HS.out, HR'.out]), by first | exact ⟨_, rfl⟩ | exact drewN_ex _ _ _⟩
          · have hz1 : ((p.size : Int) == 0) = false := beq_eq_false_iff_ne.2 (by omega)
            have hz2 : 4 < p.size := by omega
            clear hz
            go_wp2_with (first | (go_at_call 27; refine (index_any _ _ _ (by assumption) (by show (1 : Nat) ≤ 1099511627776; omega)).mono ?_; rintro e w' ⟨rfl, n1, rfl⟩; rw [show L { data := #[58] } = [58] from rfl, ← HI.out]) | (go_at_call 58; refine (isIPv4_any _ _ hpz).mono ?_; rintro e w' ⟨rfl, n2, rfl⟩))
            go_ret
            exact ⟨ret_int (by rw [HS.out, HR'.out]), by first | exact ⟨_, rfl⟩ | exact drewN_ex _ _ _⟩
        · have hz1 : ((p.size : Int) == 0) = false := beq_eq_false_iff_ne.2 (by omega)
          have hz2 : p.size ≤ 4 := by omega
          have hz3 : 1 ≤ i := by omega
          have hz4 : i ≤ 4 := by omega
          clear hz
          go_wp2_with (first | (go_at_call 27; refine (index_any _ _ _ (by assumption) (by show (1 : Nat) ≤ 1099511627776; omega)).mono ?_; rintro e w' ⟨rfl, n1, rfl⟩; rw [show L { data := #[58] } = [58] from rfl, ← HI.out]) | (go_at_call 58; refine (isIPv4_any _ _ hpz).mono ?_; rintro e w' ⟨rfl, n2, rfl⟩))
          go_loop [39] (fun j => ∃ (m : Nat), m ≤ p.size ∧ j = .int .i64 (m : Int) ∧ Hid ((L p).all NU.isHex = ((L p).drop m).all NU.isHex)) (fun j => p.size - (intOf j).toNat)
          case atStart => exact ⟨0, by omega, rfl, rfl⟩
          case round =>
            obtain ⟨m, hm, rfl, HA⟩ := hrel
            by_cases hmp : m < p.size
            · have HD : Hid (((L p).drop m).all NU.isHex = (NU.isHex p[m] && ((L p).drop (m + 1)).all NU.isHex)) := by show _ = _; rw [drop_cons p m hmp, List.all_cons]
              by_cases hx : NU.hexv p[m] < 0
              · have hx' := isHex_false hx
                go_wp2_with (go_at_call 45; refine (hex_any _ _).mono ?_; rintro e w' ⟨rfl, rfl⟩)
                go_ret
                exact ⟨ret_int (by rw [HS.out, HR.out, if_neg (by omega), HA.out, HD.out, hx']; rfl), by first | exact ⟨_, rfl⟩ | exact drewN_ex _ _ _⟩
              · have hx1 : 0 ≤ NU.hexv p[m] := by omega
                have hx' := isHex_true hx1
                go_wp2_with (go_at_call 45; refine (hex_any _ _).mono ?_; rintro e w' ⟨rfl, rfl⟩)
                go_round
                case rel => exact ⟨m + 1, by omega, by go_num, by show _ = _; rw [HA.out, HD.out, hx']; rfl⟩
                case measure => simp [intOf]; omega
            · have HA' : Hid ((L p).all NU.isHex = true) := by show _ = _; rw [HA.out, drop_end p m (by omega)]; rfl
              clear HA
              go_wp2
              go_roundw
              case rel => exact ⟨f, n + 1, _, t.extract (i + 1) t.size, by rw [ext_from, mk_size, List.length_drop, L_length]; omega, by rw [ext_from, mk_size, List.length_drop, L_length]; omega, by go_num, rfl, rfl, by show _ = _; rw [HS.out, HR.out, if_neg (by omega), HA'.out, if_neg (by simp), if_neg (by omega), ext_from, L_mk]⟩
              case measure => simp only [strSize]; rw [ext_from, mk_size, List.length_drop, L_length]; omega
      · have hc1 : ((i : Int) == (t.size : Int)) = true := beq_iff_eq.2 (by omega)
        have hc2 : (i == t.size) = true := beq_iff_eq.2 (by omega)
        by_cases hv : NU.isIPv4 (L p) = true
        · have HR : Hid (NU.pcs true (f + 1) n (L t) = (n : Int) + 2) := by
            show _ = _; rw [HU.out, if_pos ⟨by omega, rfl, hv⟩]
          clear HU
          go_wp2_with (first | (go_at_call 27; refine (index_any _ _ _ (by assumption) (by show (1 : Nat) ≤ 1099511627776; omega)).mono ?_; rintro e w' ⟨rfl, n1, rfl⟩; rw [show L { data := #[58] } = [58] from rfl, ← HI.out]) | (go_at_call 58; refine (isIPv4_any _ _ hpz).mono ?_; rintro e w' ⟨rfl, n2, rfl⟩))
          go_ret
          exact ⟨ret_int (by rw [HS.out, HR.out]), by first | exact ⟨_, rfl⟩ | exact drewN_ex _ _ _⟩
        · have hv : NU.isIPv4 (L p) = false := by simpa using hv
          have HR : Hid (NU.pcs true (f + 1) n (L t) = if i = 0 ∨ 4 < i then -1 else if (L p).all NU.isHex = false then -1 else if i = t.size then (n : Int) + 1 else NU.pcs true f (n + 1) ((L t).drop (i + 1))) := by
            show _ = _; rw [HU.out, if_neg (fun h => by rw [hv] at h; exact Bool.false_ne_true h.2.2)]
          clear HU
          by_cases hz : i = 0 ∨ 4 < i
          · have HR' : Hid (NU.pcs true (f + 1) n (L t) = -1) := by show _ = _; rw [HR.out, if_pos hz]
            clear HR
            rcases hz with hz | hz
            · have hz0 : p.size ≤ 0 := by omega
              have hz1 : ((p.size : Int) == 0) = true := beq_iff_eq.2 (by omega)
              clear hz
              go_wp2_with (first | (go_at_call 27; refine (index_any _ _ _ (by assumption) (by show (1 : Nat) ≤ 1099511627776; omega)).mono ?_; rintro e w' ⟨rfl, n1, rfl⟩; rw [show L { data := #[58] } = [58] from rfl, ← HI.out]) | (go_at_call 58; refine (isIPv4_any _ _ hpz).mono ?_; rintro e w' ⟨rfl, n2, rfl⟩))
              go_ret
              exact ⟨ret_int (by rw [HS.out, HR'.out]), by first | exact ⟨_, rfl⟩ | exact drewN_ex _ _ _⟩
            · have hz1 : ((p.size : Int) == 0) = false := beq_eq_false_iff_ne.2 (by omega)
              have hz2 : 4 < p.size := by omega
              clear hz
              go_wp2_with (first | (go_at_call 27; refine (index_any _ _ _ (by assumption) (by show (1 : Nat) ≤ 1099511627776; omega)).mono ?_; rintro e w' ⟨rfl, n1, rfl⟩; rw [show L { data := #[58] } = [58] from rfl, ← HI.out]) | (go_at_call 58; refine (isIPv4_any _ _ hpz).mono ?_; rintro e w' ⟨rfl, n2, rfl⟩))
              go_ret
              exact ⟨ret_int (by rw [HS.out, HR'.out]), by first | exact ⟨_, rfl⟩ | exact drewN_ex _ _ _⟩
          · have hz1 : ((p.size : Int) == 0) = false := beq_eq_false_iff_ne.2 (by omega)
            have hz2 : p.size ≤ 4 := by omega
            have hz3 : 1 ≤ i := by omega
            have hz4 : i ≤ 4 := by omega
            clear hz
            go_wp2_with (first | (go_at_call 27; refine (index_any _ _ _ (by assumption) (by show (1 : Nat) ≤ 1099511627776; omega)).mono ?_; rintro e w' ⟨rfl, n1, rfl⟩; rw [show L { data := #[58] } = [58] from rfl, ← HI.out]) | (go_at_call 58; refine (isIPv4_any _ _ hpz).mono ?_; rintro e w' ⟨rfl, n2, rfl⟩))
            go_loop [39] (fun j => ∃ (m : Nat), m ≤ p.size ∧ j = .int .i64 (m : Int) ∧ Hid ((L p).all NU.isHex = ((L p).drop m).all NU.isHex)) (fun j => p.size - (intOf j).toNat)
            case atStart => exact ⟨0, by omega, rfl, rfl⟩
            case round =>
              obtain ⟨m, hm, rfl, HA⟩ := hrel
              by_cases hmp : m < p.size
              · have HD : Hid (((L p).drop m).all NU.isHex = (NU.isHex p[m] && ((L p).drop (m + 1)).all NU.isHex)) := by show _ = _; rw [drop_cons p m hmp, List.all_cons]
                by_cases hx : NU.hexv p[m] < 0
                · have hx' := isHex_false hx
                  go_wp2_with (go_at_call 45; refine (hex_any _ _).mono ?_; rintro e w' ⟨rfl, rfl⟩)
                  go_ret
                  exact ⟨ret_int (by rw [HS.out, HR.out, if_neg (by omega), HA.out, HD.out, hx']; rfl), by first | exact ⟨_, rfl⟩ | exact drewN_ex _ _ _⟩
                · have hx1 : 0 ≤ NU.hexv p[m] := by omega
                  have hx' := isHex_true hx1
                  go_wp2_with (go_at_call 45; refine (hex_any _ _).mono ?_; rintro e w' ⟨rfl, rfl⟩)
                  go_round
                  case rel => exact ⟨m + 1, by omega, by go_num, by show _ = _; rw [HA.out, HD.out, hx']; rfl⟩
                  case measure => simp [intOf]; omega
              · have HA' : Hid ((L p).all NU.isHex = true) := by show _ = _; rw [HA.out, drop_end p m (by omega)]; rfl
                clear HA
                have h9 : (i : Int) = t.size := by omega
                go_wp2
                go_ret
                exact ⟨ret_int (by rw [HS.out, HR.out, if_neg (by omega), HA'.out, if_neg (by simp), if_pos (by omega)]), by first | exact ⟨_, rfl⟩ | exact drewN_ex _ _ _⟩
end Go.Proofs.Ytcbmfimafiolaaa
