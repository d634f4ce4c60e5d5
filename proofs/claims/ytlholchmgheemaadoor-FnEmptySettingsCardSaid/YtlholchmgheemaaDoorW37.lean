import Derived.Test.YtlholchmgheemaaDoorW14
import Derived.Test.YtlholchmgheemaaDoorP
import Derived.Test.YtlholchmgheemaaDoorSc
namespace Go.Proofs.YtlholchmgheemaaDoor
set_option linter.unusedVariables false
set_option linter.unusedSimpArgs false
open Go.RowKit

set_option maxHeartbeats 1000000 in
theorem zzCount1_any (s : ByteArray) (c : UInt8) (hs : s.size ≤ 35184372088832) (w : World) :
    Calls Tryd.prog 42 #[.string s, .string ⟨#[c]⟩] w fun e w' => e = .returned (.int .i64 (NU.cnt c (L s) : Nat)) ∧ w = w' := by
  go_enter Tryd.func42, Tryd.ntmps42
  go_wp2
  go_loop [5, 6] (fun a i => ∃ k n : Nat, k ≤ s.size ∧ n ≤ k ∧ i = .int .i64 (k : Int) ∧ a = .int .i64 (n : Int) ∧ Hid (NU.cnt c (L s) = n + NU.cnt c ((L s).drop k))) (fun _ i => s.size - (intOf i).toNat)
  case atStart => exact ⟨0, 0, by omega, by omega, rfl, rfl, by show _ = _; simp⟩
  case round =>
    obtain ⟨k, n, hk, hn, rfl, rfl, HS⟩ := hrel
    by_cases hlt : k < s.size
    · have hX : L (s.extract k (k + 1)) = [s[k]] := by rw [ext_mk, L_mk, drop_cons s k hlt, show k + 1 - k = 1 by omega]; rfl
      obtain ⟨x, hx⟩ : ∃ x, x = s.extract k (k + 1) := ⟨_, rfl⟩
      rw [← hx] at hX
      have HV : Hid (NU.cnt c (L s) = n + ((if s[k] == c then 1 else 0) + NU.cnt c ((L s).drop (k + 1)))) := by
        show _ = _; rw [HS.out, drop_cons s k hlt, NU.cnt_cons]
      have hx' := hx.symm
      clear HS hx
      cases hc : (s[k] == c)
      · have q : (x.toList == [c]) = false := ne_lits x _ (by rw [hX]; intro e; simp at e; simp [e] at hc)
        have HF : Hid (NU.cnt c (L s) = n + NU.cnt c ((L s).drop (k + 1))) := by show _ = _; rw [HV.out, hc]; simp
        clear HV hc hX
        go_wp2
        go_round
        case rel => exact ⟨k + 1, n, by omega, by omega, by first | rfl | go_num, rfl, HF⟩
        case measure => first | (simp [intOf]; done) | (simp [intOf]; omega)
      · have q : (x.toList == [c]) = true := eq_lits x _ (by rw [hX]; simp at hc; rw [hc])
        have HF : Hid (NU.cnt c (L s) = (n + 1) + NU.cnt c ((L s).drop (k + 1))) := by show _ = _; rw [HV.out, hc]; simp; omega
        clear HV hc hX
        go_wp2
        go_round
        case rel => exact ⟨k + 1, n + 1, by omega, by omega, by first | rfl | go_num, by first | rfl | go_num, HF⟩
        case measure => first | (simp [intOf]; done) | (simp [intOf]; omega)
    · have HF : Hid (NU.cnt c (L s) = n) := by show _ = _; rw [HS.out, drop_end s k (by omega)]; rfl
      clear HS
      go_wp2
      go_ret
      exact ⟨ret_int (by rw [HF.out]), rfl⟩
theorem zzContains_any (s t : ByteArray) (hs : s.size ≤ 35184372088832) (ht : t.size ≤ 35184372088832) (w : World) :
    Calls Tryd.prog 45 #[.string s, .string t] w fun e w' => e = .returned (.bool (decide (0 ≤ NU.fsub (L t) (L s)))) ∧ w = w' := by
  have C := Lib.hid (fun W => zzIndex_any s t W hs ht)
  go_enter Tryd.func45, Tryd.ntmps45
  go_wp2_with (go_at_call 51; (with_reducible refine (C.out _).mono ?_); rintro e w1 ⟨rfl, rfl⟩)
  go_ret
  exact ⟨rfl, rfl⟩

theorem sbs (l : List UInt8) (s : ByteArray) : Lib.byteCells l ++ Lib.strCells s = Lib.byteCells (l ++ L s) := by simp [Lib.byteCells, Lib.strCells]
end Go.Proofs.YtlholchmgheemaaDoor
