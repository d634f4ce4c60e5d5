import Derived.Test.YtcbmfimafiolaaaRow
import Derived.Test.YtcbmfimafiolaaaW14
import Derived.Test.YtcbmfimafiolaaaP11
import Derived.Lib.AppendStr
import Derived.Laws.OwnMore
namespace Go.Proofs.Ytcbmfimafiolaaa
set_option linter.unusedVariables false
set_option linter.unusedSimpArgs false
open Go.RowKit

set_option maxHeartbeats 400000 in
theorem LastIndexByteB_any (g off cap : Nat) (l : List UInt8) (c : UInt8) (w : World) (hs : l.length ≤ 1099511627776) (hc : Hid (∀ (j : Nat) (h : j < l.length), w.cell? ⟨g, off + j, none⟩ = some (.int .u8 (l[j].toNat : Int)))) :
    Calls Try.prog 67 #[.slice (some ⟨g, off, none⟩) l.length cap, .int .u8 (c.toNat : Int)] w fun e w' => e = .returned (.int .i64 (NU.lastIdx c l)) ∧ w = w' := by
  obtain ⟨n, hn⟩ : ∃ n, n = l.length := ⟨_, rfl⟩
  rw [← hn] at hs ⊢
  have HN := Lib.hid hn
  clear hn
  go_enter Try.func67, Try.ntmps67
  go_wp2
  go_loop [5] (fun i => ∃ k : Nat, k ≤ n ∧ i = .int .i64 ((k : Int) - 1) ∧ Hid (NU.lastIdx c l = NU.lastIdx c (l.take k))) (fun i => ((intOf i) + 1).toNat)
  case atStart => exact ⟨n, by omega, rfl, by show _ = _; rw [List.take_of_length_le (by rw [HN.out]; omega)]⟩
  case round =>
    obtain ⟨k, hk, rfl, HS⟩ := hrel
    by_cases h0 : k = 0
    · have h1 : ¬ (1 : Int) ≤ k := by omega
      have h2 : ¬ (0 : Int) ≤ (k : Int) - 1 := by omega
      have HF : Hid (NU.lastIdx c l = -1) := by show _ = _; rw [HS.out, h0]; rfl
      clear HS h0
      go_wp2
      go_ret
      exact ⟨ret_int HF.out.symm, rfl⟩
    · obtain ⟨m, rfl⟩ : ∃ m, k = m + 1 := ⟨k - 1, by omega⟩
      have hm : m < n := by omega
      have hml : m < l.length := by rw [← HN.out]; exact hm
      obtain ⟨x, hx⟩ : ∃ x, x = l[m] := ⟨_, rfl⟩
      have HI : Hid (NU.lastIdx c (l.take (m + 1)) = if x == c then (m : Int) else NU.lastIdx c (l.take m)) := by
        show _ = _
        have e1 : l.take (m + 1) = l.take m ++ [x] := by
          rw [List.take_succ_eq_append_getElem hml, hx]
        have e2 : (l.take m).length = m := by rw [List.length_take]; omega
        rw [e1, NU.lastIdx_snoc, e2]
      have c0 : w.cell? ⟨g, off + m, none⟩ = some (.int .u8 (x.toNat : Int)) := by rw [hc.out m hml, hx]
      have e3 : (((m + 1 : Nat) : Int) - 1) = (m : Int) := by omega
      rw [e3]
      clear h0 e3 hx hml
      by_cases hc : ((x.toNat : Int) == (c.toNat : Int)) = true
      · have HC : Hid ((x == c) = true) := by show _ = _; rw [← u8_eq]; exact hc
        go_wp2
        go_ret
        exact ⟨ret_int (by rw [HS.out, HI.out, HC.out]; rfl), rfl⟩
      · have hc : ((x.toNat : Int) == (c.toNat : Int)) = false := by simpa using hc
        have HC : Hid ((x == c) = false) := by show _ = _; rw [← u8_eq]; exact hc
        go_wp2
        go_round
        case rel => exact ⟨m, by omega, rfl, by show _ = _; rw [HS.out, HI.out, HC.out]; rfl⟩
        case measure => first | (simp [intOf]; done) | (simp [intOf]; omega)
theorem bytesLastIndexByte_any (g off cap : Nat) (l : List UInt8) (c : UInt8) (w : World) (hs : l.length ≤ 1099511627776) (hc : Hid (∀ (j : Nat) (h : j < l.length), w.cell? ⟨g, off + j, none⟩ = some (.int .u8 (l[j].toNat : Int)))) :
    Calls Try.prog 61 #[.slice (some ⟨g, off, none⟩) l.length cap, .int .u8 (c.toNat : Int)] w fun e w' => e = .returned (.int .i64 (NU.lastIdx c l)) ∧ w = w' := by
  go_enter Try.func61, Try.ntmps61
  go_wp2_with (go_at_call 67; refine (LastIndexByteB_any g off cap l c _ hs hc).mono ?_; rintro e w' ⟨rfl, rfl⟩)
  go_ret
  exact ⟨rfl, rfl⟩

set_option maxHeartbeats 400000 in
theorem LastIndex1_any (s : ByteArray) (c : UInt8) (w : World) (hs : s.size ≤ 1099511627776) :
    Calls Try.prog 59 #[.string s, .string ⟨#[c]⟩] w fun e w' => e = .returned (.int .i64 (NU.lastIdx c (L s))) ∧ w = w' := by
  go_enter Try.func59, Try.ntmps59
  go_wp2_with (go_at_call 62; refine (LastIndexByteString_any _ c _ hs).mono ?_; rintro e w' ⟨rfl, rfl⟩)
  go_ret
  exact ⟨rfl, rfl⟩
end Go.Proofs.Ytcbmfimafiolaaa
