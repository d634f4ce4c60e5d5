import Derived.Test.YtibcegbacnjmfaaGreatDoorW91
import Derived.Test.YtibcegbacnjmfaaGreatDoorW22
import Derived.Maps.RangeWalk
namespace Go.Proofs.YtibcegbacnjmfaaGreatDoor
set_option linter.unusedVariables false
set_option linter.unusedSimpArgs false
open Go.RowKit

theorem B16.cell {w : World} {g : Nat} (h : B16 w g) (j : Nat) (hj : j < 16) : ∃ z : Int, w.cell? ⟨g, j, none⟩ = some (.int .u8 z) ∧ 0 ≤ z ∧ z ≤ 255 := by
  obtain ⟨cs, hb, _, hc⟩ := h
  obtain ⟨z, hz, h0⟩ := hc j hj
  exact ⟨z, (hb.cell j).trans hz, h0⟩
theorem B16.frozen {w : World} {g : Nat} (h : B16 w g) (j : Nat) : w.frozen? ⟨g, j, none⟩ = false := by
  obtain ⟨cs, hb, _, _⟩ := h
  exact hb.frozen j
theorem B16.lt {w : World} {g : Nat} (h : B16 w g) : g < w.heap.size := by obtain ⟨cs, hb, _⟩ := h; exact hb.lt
theorem B16.set_ {w : World} {g : Nat} (h : B16 w g) (j : Nat) (z : Int) (h0 : 0 ≤ z) (h1 : z ≤ 255) : B16 (w.setCell ⟨g, j, none⟩ (.int .u8 z)) g := by
  obtain ⟨cs, hb, hs, hc⟩ := h
  refine ⟨_, hb.set_ j _, by simpa using hs, fun i hi => ?_⟩
  obtain ⟨y, hy, y0⟩ := hc i hi
  by_cases e : j = i
  · subst e
    exact ⟨z, by rw [Array.getElem?_setIfInBounds_self_of_lt (by omega)], h0, h1⟩
  · exact ⟨y, by rw [Array.getElem?_setIfInBounds_ne e]; exact hy, y0⟩
theorem B16.below {B : Nat} {w w' : World} {g : Nat} (h : B16 w g) (hb : Below B w w') (hg : g < B) : B16 w' g := by
  obtain ⟨cs, h1, h2⟩ := h
  exact ⟨cs, h1.below hb hg, h2⟩
theorem gb_refl (w : World) (row : Option Nat) : w.grownBy w row := ⟨rfl, rfl, rfl, Nat.le_refl _, fun _ _ _ => rfl⟩
theorem gb_set {a w : World} {b : Nat} (h : a.grownBy w (some b)) (i : Nat) (v : Value) : a.grownBy (w.setCell ⟨b, i, none⟩ v) (some b) :=
  ⟨h.os, h.tape, h.output, by have := h.size; simpa [World.setCell] using this, fun k hk hne => by
    rw [← h.block k hk hne]
    exact Below.heap_setCell w ⟨b, i, none⟩ v k (fun e => hne (by rw [e]))⟩
theorem v4f_digit {n v p : Nat} {c : UInt8} {r : List UInt8} (h : NU.v4f n v p (c :: r) = true) (hd : NU.isDigit c = true) : ¬ (n = 1 ∧ v = 0) ∧ v * 10 + (c.toNat - 48) ≤ 255 ∧ NU.v4f (n + 1) (v * 10 + (c.toNat - 48)) p r = true := by
  rw [NU.v4f, if_pos hd] at h
  simp only [Bool.and_eq_true, Bool.not_eq_true', decide_eq_true_eq] at h
  refine ⟨fun e => ?_, h.1.2, h.2⟩
  have := h.1.1
  rw [e.1, e.2] at this; cases this
theorem v4f_dot {n v p : Nat} {c : UInt8} {r : List UInt8} (h : NU.v4f n v p (c :: r) = true) (hd : NU.isDigit c = false) : c = 46 ∧ 0 < n ∧ r ≠ [] ∧ p < 3 ∧ NU.v4f 0 0 (p + 1) r = true := by
  rw [NU.v4f, if_neg (by simp [hd])] at h
  split at h
  · rename_i hc
    simp only [Bool.and_eq_true, Bool.not_eq_true', decide_eq_true_eq] at h
    exact ⟨hc, h.1.1.1, by intro e; rw [e] at h; simp at h, h.1.2, h.2⟩
  · cases h
set_option maxRecDepth 100000 in
set_option maxHeartbeats 4000000 in
theorem parseIPv4Fields_any (s t : ByteArray) (off en g o c : Nat) (hoff : off ≤ en) (hen : en ≤ s.size) (hs : s.size ≤ 35184372088832) (hT : s.extract off en = t) (htz : t.size = en - off) (hv : NU.v4ok (L t) = true) (ho : o + 4 ≤ 16) (w : World) (h16 : Hid (B16 w g)) :
    Calls Tryz.prog 96 #[.string s, .int .i64 (off : Int), .int .i64 (en : Int), .slice (some ⟨g, o, none⟩) 4 c] w fun e w' => e = .returned .nilIface ∧ w.grownBy w' (some g) ∧ B16 w' g := by
  have htb : t.size ≤ 35184372088832 := by omega
  have hoff' : (off : Int) ≤ (en : Int) := by omega
  have hen' : (en : Int) ≤ (s.size : Int) := by omega
  replace hv := Lib.hid hv
  go_enter Tryz.func96, Tryz.ntmps96
  go_wp2
  go_loopw [9, 10, 11, 13] (fun a b d i wr => ∃ k v p n : Nat, k ≤ t.size ∧ a = .int .i64 (v : Int) ∧ b = .int .i64 (p : Int) ∧ d = .int .i64 (n : Int) ∧ i = .int .i64 (k : Int) ∧ v ≤ 255 ∧ p ≤ 3 ∧ n ≤ k ∧ Hid (NU.v4f n v p ((L t).drop k) = true) ∧ Hid (0 < n → ∃ j, k = j + 1 ∧ ∃ h : j < t.size, t[j] ≠ 46) ∧ Hid (w.grownBy wr (some g)) ∧ Hid (B16 wr g)) (fun _ _ _ i _ => t.size - (intOf i).toNat)
  case atStart => exact ⟨0, 0, 0, 0, by omega, rfl, rfl, rfl, rfl, by omega, by omega, by omega, hv, fun h => absurd h (by omega), gb_refl _ _, h16⟩
  case round =>
    obtain ⟨k, v, p, n, hk, rfl, rfl, rfl, rfl, hv1, hp1, hn1, HV, HD, HG, HB⟩ := hrel
    by_cases hlt : k < t.size
    case neg =>
      have hkk : t.size ≤ k := by omega
      have hp3 : p = 3 := by
        have h1 := HV.out
        rw [drop_end t k hkk, NU.v4f] at h1
        have := of_decide_eq_true h1; omega
      subst hp3
      obtain ⟨z, hz, _⟩ := HB.out.cell (o + 3) (by omega)
      have fz := HB.out.frozen (o + 3)
      have hvv : (v : Int) ≤ 255 := by omega
      clear hlt
      go_wp2
      go_ret
      exact ⟨rfl, gb_set HG.out _ _, HB.out.set_ _ _ (by omega) (by omega)⟩
    case pos =>
      have hdr := drop_cons t k hlt
      have hV := HV.out
      rw [hdr] at hV
      clear HV hdr
      cases hd : NU.isDigit t[k]
      case true =>
        obtain ⟨h1, h2, h3⟩ := v4f_digit hV hd
        have hd1 : 48 ≤ t[k].toNat ∧ t[k].toNat ≤ 57 := by simpa [NU.isDigit] using hd
        have g1 : 48 ≤ (t[k].toNat : Int) := by omega
        have g2 : (t[k].toNat : Int) ≤ 57 := by omega
        have H3 := Lib.hid h3
        have hcs : ((n : Int) == 1) = false ∨ (((n : Int) == 1) = true ∧ ((v : Int) == 0) = false) := by
          by_cases e : n = 1
          · right; refine ⟨by simp [e], ?_⟩
            have : v ≠ 0 := fun e2 => h1 ⟨e, e2⟩
            simpa using this
          · left; simp; omega
        have HN : Hid (0 < n + 1 → ∃ j, k + 1 = j + 1 ∧ ∃ h : j < t.size, t[j] ≠ 46) := by
          show _ → _
          intro _
          exact ⟨k, rfl, hlt, fun e => by rw [e] at g1; exact absurd g1 (by decide)⟩
        clear h3 hV hd h1
        rcases hcs with e1 | ⟨e1, e2⟩
        all_goals
          go_wp2
          go_roundw
          case rel => exact ⟨k + 1, v * 10 + (t[k].toNat - 48), p, n + 1, by omega, by first | rfl | go_num, rfl, by first | rfl | go_num, by first | rfl | go_num, by omega, hp1, by omega, H3, HN, HG, HB⟩
          case measure => first | (simp [intOf]; done) | (simp [intOf]; omega)
      case false =>
        obtain ⟨hc, hn0, hr, hp3, h3⟩ := v4f_dot hV hd
        obtain ⟨j, rfl, hj, hne⟩ := HD.out hn0
        have hk2 : j + 1 + 1 < t.size := by
          rcases Nat.lt_or_ge (j + 1 + 1) t.size with h' | h'
          · exact h'
          · exact absurd (drop_end t (j + 1 + 1) h') hr
        have hci : (t[j + 1].toNat : Int) = 46 := by rw [hc]; rfl
        have hnj : ((t[j].toNat : Int) == 46) = false := by
          have : t[j].toNat ≠ 46 := fun e => hne (UInt8.toNat_inj.1 (by rw [e]; rfl))
          rw [beq_eq_false_iff_ne]; omega
        have H3 := Lib.hid h3
        obtain ⟨z, hz, _⟩ := HB.out.cell (o + p) (by omega)
        have fz := HB.out.frozen (o + p)
        have hvv : (v : Int) ≤ 255 := by omega
        have ej : ((j + 1 : Nat) : Int) - 1 = (j : Int) := by omega
        have hpp : ((p : Int) == 3) = false := by rw [beq_eq_false_iff_ne]; omega
        have ha : ((j : Int) + 1 == 0) = false := by rw [beq_eq_false_iff_ne]; omega
        have hb : ((j : Int) + 1 == (t.size : Int) - 1) = false := by rw [beq_eq_false_iff_ne]; omega
        clear h3 hV hd hc hne HD hr
        go_wp2
        go_roundw
        case rel => exact ⟨j + 1 + 1, 0, p + 1, 0, by omega, by first | rfl | go_num, by first | rfl | go_num, by first | rfl | go_num, by first | rfl | go_num, by omega, by omega, by omega, H3, fun h => absurd h (by omega), gb_set HG.out _ _, HB.out.set_ _ _ (by omega) (by omega)⟩
        case measure => first | (simp [intOf]; done) | (simp [intOf]; omega)
end Go.Proofs.YtibcegbacnjmfaaGreatDoor
