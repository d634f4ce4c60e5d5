import Derived.Test.YtcbmfimafiolaaaW18
import Derived.Test.YtcbmfimafiolaaaP8
import Derived.IntWalk
namespace Go.Proofs.Ytcbmfimafiolaaa
set_option linter.unusedVariables false
set_option linter.unusedSimpArgs false
open Go.RowKit

theorem digs_one : ∀ e : Nat, e ≤ 9 → NU.allDigits (L ((⟨#[48, 49, 50, 51, 52, 53, 54, 55, 56, 57]⟩ : ByteArray).extract e (e + 1))) = true ∧ ((⟨#[48, 49, 50, 51, 52, 53, 54, 55, 56, 57]⟩ : ByteArray).extract e (e + 1)).size = 1 := by
  intro e he
  have : ∀ e : Fin 10, NU.allDigits (L ((⟨#[48, 49, 50, 51, 52, 53, 54, 55, 56, 57]⟩ : ByteArray).extract e.val (e.val + 1))) = true ∧ ((⟨#[48, 49, 50, 51, 52, 53, 54, 55, 56, 57]⟩ : ByteArray).extract e.val (e.val + 1)).size = 1 := by decide
  exact this ⟨e, by omega⟩
theorem allDigits_app (a b : List UInt8) : NU.allDigits (a ++ b) = (NU.allDigits a && NU.allDigits b) := by unfold NU.allDigits; simp
theorem digs_step (x y : Int) (d : ByteArray) (k : Nat) (hx : 0 ≤ x ∧ x ≤ 9) (hy : y = x + 1) (hd : d.size + k ≤ 19) (ha : NU.allDigits (L d) = true) :
    ((⟨#[48, 49, 50, 51, 52, 53, 54, 55, 56, 57]⟩ : ByteArray).extract x.toNat y.toNat ++ d).size + k ≤ 20 ∧ NU.allDigits (L ((⟨#[48, 49, 50, 51, 52, 53, 54, 55, 56, 57]⟩ : ByteArray).extract x.toNat y.toNat ++ d)) = true := by
  obtain ⟨e, rfl⟩ := Int.eq_ofNat_of_zero_le hx.1
  have e2 : y.toNat = e + 1 := by omega
  rw [e2, Int.toNat_natCast]
  have := digs_one e (by omega)
  refine ⟨by rw [ByteArray.size_append, this.2]; omega, ?_⟩
  have e3 : L ((⟨#[48, 49, 50, 51, 52, 53, 54, 55, 56, 57]⟩ : ByteArray).extract e (e + 1) ++ d) = L ((⟨#[48, 49, 50, 51, 52, 53, 54, 55, 56, 57]⟩ : ByteArray).extract e (e + 1)) ++ L d := by simp [L]
  rw [e3, allDigits_app, this.1, ha]; rfl
theorem pow_step (m : Int) (k : Nat) (h : m.natAbs < 10 ^ k) (hk : k ≤ 19) (h0 : (wrap64 (m.tdiv 10) == 0) = false) :
    ∃ j, k = j + 1 ∧ (wrap64 (m.tdiv 10)).natAbs < 10 ^ j ∧ (wrap64 (m.tdiv 10)).natAbs < m.natAbs := by
  have hp : 10 ^ k ≤ 10 ^ 19 := Nat.pow_le_pow_right (by omega) hk
  have hq : (m.tdiv 10).natAbs = m.natAbs / 10 := Int.natAbs_tdiv ..
  have hw : wrap64 (m.tdiv 10) = m.tdiv 10 := by unfold wrap64; simp at hp; omega
  rw [hw] at h0 ⊢
  have h0 : m.tdiv 10 ≠ 0 := by simpa using h0
  rw [hq]
  match k, h with
  | 0, h => simp at h; subst h; exact absurd rfl h0
  | j + 1, h => rw [Nat.pow_succ] at h; exact ⟨j, rfl, by omega, by omega⟩

set_option maxHeartbeats 1000000 in
theorem Digits_any (n : Int) (w : World) (hn : (Lit.int .i64 n).wf = true) :
    Calls Try.prog 18 #[.int .i64 n] w fun e w' => (∃ d : ByteArray, e = .returned (.string d) ∧ NU.allDigits (L d) = true ∧ d.size ≤ 20) ∧ w = w' := by
  have hN : Hid (n.natAbs < 10 ^ 19) := by
    show n.natAbs < 10 ^ 19
    have : IntKind.i64.min ≤ n ∧ n ≤ 9223372036854775807 := by simpa [Lit.wf] using hn
    have e : IntKind.i64.min = -9223372036854775808 := rfl
    omega
  clear hn
  go_enter Try.func18, Try.ntmps18
  go_wp2
  go_loop [0, 3] (fun a b => ∃ (m : Int) (d : ByteArray) (k : Nat), a = .int .i64 m ∧ b = .string d ∧ Hid (m.natAbs < 10 ^ k ∧ d.size + k ≤ 19 ∧ NU.allDigits (L d) = true)) (fun a _ => (intOf a).natAbs)
  case atStart => exact ⟨n, ⟨#[]⟩, 19, rfl, rfl, hN.out, by show (0 : Nat) + 19 ≤ 19; omega, rfl⟩
  case round =>
    obtain ⟨m, d, k, rfl, rfl, H⟩ := hrel
    have hr : (m.tmod 10).natAbs ≤ 9 := by rw [Int.natAbs_tmod]; show m.natAbs % 10 ≤ 9; omega
    have hsz : d.size ≤ 19 := by have := H.out; omega
    go_wp2
    case roundEnd =>
      rename_i hs h0
      obtain ⟨j, hj, hj1, hj2⟩ := pow_step m k H.out.1 (by have := H.out; omega) h0
      have hD := digs_step (-m.tmod 10) (-m.tmod 10 + 1) d k (by omega) rfl H.out.2.1 H.out.2.2
      exact ⟨⟨_, _, j, rfl, rfl, hj1, by have := hD.1; have := H.out; subst hj; omega, hD.2⟩, hj2⟩
    case roundEnd =>
      rename_i hs h0
      obtain ⟨j, hj, hj1, hj2⟩ := pow_step m k H.out.1 (by have := H.out; omega) h0
      have hD := digs_step (m.tmod 10) (m.tmod 10 + 1) d k (by omega) rfl H.out.2.1 H.out.2.2
      exact ⟨⟨_, _, j, rfl, rfl, hj1, by have := hD.1; have := H.out; subst hj; omega, hD.2⟩, hj2⟩
    · rename_i hs h0
      have hD := digs_step (-m.tmod 10) (-m.tmod 10 + 1) d k (by omega) rfl H.out.2.1 H.out.2.2
      go_ret
      exact ⟨⟨_, rfl, hD.2, by have := hD.1; omega⟩, rfl⟩
    · rename_i hs h0
      have hD := digs_step (m.tmod 10) (m.tmod 10 + 1) d k (by omega) rfl H.out.2.1 H.out.2.2
      go_ret
      exact ⟨⟨_, rfl, hD.2, by have := hD.1; omega⟩, rfl⟩
end Go.Proofs.Ytcbmfimafiolaaa
