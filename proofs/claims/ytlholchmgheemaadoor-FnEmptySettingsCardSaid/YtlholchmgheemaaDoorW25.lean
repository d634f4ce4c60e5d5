import Derived.Test.YtlholchmgheemaaDoorBrow
import Derived.Test.YtlholchmgheemaaDoorW22
import Derived.Test.YtlholchmgheemaaDoorW23
namespace Go.Proofs.YtlholchmgheemaaDoor
set_option linter.unusedVariables false
set_option linter.unusedSimpArgs false
open Go.RowKit

theorem plus_step (s : ByteArray) (k : Nat) (h : k < s.size) : NU.plus ((L s).take (k + 1)) ++ (L s).drop (k + 1) = NU.plus ((L s).take k) ++ (if s[k] == 43 then 32 else s[k]) :: (L s).drop (k + 1) := by
  have e1 : (L s).take (k + 1) = (L s).take k ++ [s[k]] := by
    rw [List.take_succ_eq_append_getElem (by rw [L_length]; exact h)]; rfl
  rw [e1]; simp [NU.plus]
theorem plus_len (l : List UInt8) : (NU.plus l).length = l.length := by simp [NU.plus]

set_option maxHeartbeats 1000000 in
theorem plus_any (s : ByteArray) (w : World) (hs : s.size ≤ 35184372088832) :
    Calls Tryd.prog 20 #[.string s] w fun e w' => e = .returned (.string (mk (NU.plus (L s)))) ∧ Fr w w' := by
  obtain ⟨g, cap, w1, hcv, hf1, hg, hr⟩ := bytes_conv s w
  replace hr := Lib.hid hr
  go_enter Tryd.func20, Tryd.ntmps20
  go_wp2
  go_loopw [10] (fun i wr => ∃ k : Nat, k ≤ s.size ∧ i = .int .i64 (k : Int) ∧ Fr w wr ∧ Hid (BRow wr g (NU.plus ((L s).take k) ++ (L s).drop k))) (fun i _ => s.size - (intOf i).toNat)
  case atStart => exact ⟨0, by omega, rfl, hf1, by show BRow _ _ _; simpa [NU.plus] using hr.out⟩
  case round =>
    obtain ⟨k, hk, rfl, hfr, HR⟩ := hrel
    by_cases hlt : k < s.size
    · have hlen : k < (NU.plus ((L s).take k) ++ (L s).drop k).length := by
        rw [List.length_append, plus_len, List.length_take, List.length_drop, L_length]; omega
      have hat : (NU.plus ((L s).take k) ++ (L s).drop k)[k]'hlen = s[k] := by
        have hl : (NU.plus ((L s).take k)).length = k := by rw [plus_len, List.length_take, L_length]; omega
        rw [List.getElem_append_right (by omega)]
        simp [hl, L]
        rfl
      have c0 : wr.cell? ⟨g, k, none⟩ = some (.int .u8 (s[k].toNat : Int)) := by rw [HR.out.cell k hlen, hat]
      have f0 : wr.frozen? ⟨g, k, none⟩ = false := HR.out.frozen k hlen
      have hst := plus_step s k hlt
      have HN : Hid (s[k] == 43 → BRow (wr.setCell ⟨g, k, none⟩ (.int .u8 32)) g (NU.plus ((L s).take (k + 1)) ++ (L s).drop (k + 1))) := by
        show _ → _
        intro h43
        have := HR.out.set_ k hlen 32
        have e : (NU.plus ((L s).take k) ++ (L s).drop k).set k 32 = NU.plus ((L s).take (k + 1)) ++ (L s).drop (k + 1) := by
          rw [hst, if_pos h43]
          have hl : (NU.plus ((L s).take k)).length = k := by rw [plus_len, List.length_take, L_length]; omega
          rw [List.set_append_right _ _ (by omega), hl, Nat.sub_self, drop_cons s k hlt]; rfl
        rw [e] at this; exact this
      have HM : Hid (¬ (s[k] == 43) = true → BRow wr g (NU.plus ((L s).take (k + 1)) ++ (L s).drop (k + 1))) := by
        show _ → _
        intro h43
        rw [hst, if_neg h43, ← drop_cons s k hlt]; exact HR.out
      have hb := u8beq s[k] 43
      clear hat hlen hst
      by_cases hc : ((s[k].toNat : Int) == 43) = true
      · have hb43 : (s[k] == 43) = true := by rw [← hb]; exact hc
        clear hb
        replace hb43 := Lib.hid hb43
        go_wp2
        go_round
        case rel => exact ⟨k + 1, by omega, rfl, hfr.setCell hg _, HN.out hb43.out⟩
        case measure => first | (simp [intOf]; done) | (simp [intOf]; omega)
      · have hc : ((s[k].toNat : Int) == 43) = false := by simpa using hc
        have hb43 : ¬ (s[k] == 43) = true := by rw [← hb]; intro h; rw [show ((43 : UInt8).toNat : Int) = 43 from rfl, hc] at h; cases h
        clear hb
        replace hb43 := Lib.hid hb43
        go_wp2
        go_round
        case rel => exact ⟨k + 1, by omega, rfl, hfr, HM.out hb43.out⟩
        case measure => first | (simp [intOf]; done) | (simp [intOf]; omega)
    · have hkk : k = s.size := by omega
      subst hkk
      have hstr : (convert 58 9 (.slice (some ⟨g, 0, none⟩) s.size cap)).run Tryd.prog wr = .ok (.string (mk (NU.plus (L s)))) wr := by
        have := HR.out
        rw [List.take_of_length_le (by rw [L_length]; omega), drop_end s s.size (by omega), List.append_nil] at this
        exact this.string s.size cap (by rw [plus_len, L_length])
      go_wp2
      go_ret
      exact ⟨rfl, hfr⟩
end Go.Proofs.YtlholchmgheemaaDoor
