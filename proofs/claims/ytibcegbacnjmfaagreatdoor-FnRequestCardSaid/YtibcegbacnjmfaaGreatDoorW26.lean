import Derived.Test.YtibcegbacnjmfaaGreatDoorBrow
import Derived.Test.YtibcegbacnjmfaaGreatDoorW21
import Derived.Test.YtibcegbacnjmfaaGreatDoorP
import Derived.Lib.LazyBuf
import Derived.Deep.DeepCutAuto
namespace Go.Proofs.YtibcegbacnjmfaaGreatDoor
set_option linter.unusedVariables false
set_option linter.unusedSimpArgs false
open Go.RowKit

theorem hexd_at (c : UInt8) (k : Nat) (hk : k = c.toNat) (h : k < (⟨#[48, 49, 50, 51, 52, 53, 54, 55, 56, 57, 65, 66, 67, 68, 69, 70]⟩ : ByteArray).size) : (⟨#[48, 49, 50, 51, 52, 53, 54, 55, 56, 57, 65, 66, 67, 68, 69, 70]⟩ : ByteArray)[k] = NU.hexU c := by
  subst hk
  rw [← NU.hexU_toNat c h]; rfl
set_option maxRecDepth 100000 in
set_option maxHeartbeats 4000000 in
theorem escape_any (s : ByteArray) (m : UInt8) (w : World) (ht : Tab w) (hs : s.size ≤ 1099511627776) :
    Calls Tryz.prog 45 #[.string s, .int .u8 (m.toNat : Int)] w fun e w' => e = .returned (.string (mk (NU.esc m (L s)))) ∧ Fr w w' := by
  obtain ⟨g, cap, w1, hcv, hf1, hg, hr⟩ := bytes_conv s w
  replace hr := Lib.hid hr
  have ht1 := Lib.hid (ht.fr hf1)
  have C := Lib.hid (fun c W hW => should_any c m W hW)
  go_enter Tryz.func45, Tryz.ntmps45
  go_wp2
  go_loop [5, 6, 19] (fun a b i => ∃ k x y : Nat, k ≤ s.size ∧ i = .int .i64 (k : Int) ∧ a = .int .i64 (x : Int) ∧ b = .int .i64 (y : Int) ∧ x + y ≤ k ∧ Hid (NU.spN m (L s) = x + NU.spN m ((L s).drop k)) ∧ Hid (NU.hexN m (L s) = y + NU.hexN m ((L s).drop k))) (fun _ _ i => s.size - (intOf i).toNat)
  case atStart => exact ⟨0, 0, 0, by omega, rfl, rfl, rfl, by omega, by show _ = _; simp, by show _ = _; simp⟩
  case round =>
    obtain ⟨k, x, y, hk, rfl, rfl, rfl, hxy, HX, HY⟩ := hrel
    by_cases hlt : k < s.size
    · have c0 : w1.cell? ⟨g, k, none⟩ = some (.int .u8 (s[k].toNat : Int)) := by rw [hr.out.cell k (by rw [L_length]; exact hlt)]; rfl
      have HX' : Hid (NU.spN m ((L s).drop k) = (if NU.should m s[k] && NU.blank m s[k] then 1 else 0) + NU.spN m ((L s).drop (k + 1))) := by show _ = _; rw [drop_cons s k hlt, NU.spN]
      have HY' : Hid (NU.hexN m ((L s).drop k) = (if NU.should m s[k] && !NU.blank m s[k] then 1 else 0) + NU.hexN m ((L s).drop (k + 1))) := by show _ = _; rw [drop_cons s k hlt, NU.hexN]
      have b1 := u8beq s[k] 32
      have b2 := u8beq m 32
      have HB : Hid (NU.blank m s[k] = (((s[k].toNat : Int) == 32) && ((m.toNat : Int) == 32))) := by show _ = _; rw [show (32 : Int) = ((32 : UInt8).toNat : Int) from rfl, b1, b2]; rfl
      clear b1 b2
      cases hsh : NU.should m s[k]
      · have hsh := Lib.hid hsh
        go_wp2_with (go_at_call 64; refine (C.out _ _ ht1.out).mono ?_; rintro e w' ⟨rfl, rfl⟩; rw [hsh.out])
        go_round
        case rel => exact ⟨k + 1, x, y, by omega, by go_num, rfl, rfl, by omega, by show _ = _; rw [HX.out, HX'.out, hsh.out]; simp, by show _ = _; rw [HY.out, HY'.out, hsh.out]; simp⟩
        case measure => first | (simp [intOf]; done) | (simp [intOf]; omega)
      · have hsh := Lib.hid hsh
        cases hbl : NU.blank m s[k]
        · have hbl' := HB.out
          rw [hbl] at hbl'
          have hbl := Lib.hid hbl
          have hz : ((s[k].toNat : Int) == 32) = false ∨ (((s[k].toNat : Int) == 32) = true ∧ ((m.toNat : Int) == 32) = false) := by
            revert hbl'; cases ((s[k].toNat : Int) == 32) <;> simp
          clear hbl'
          rcases hz with hz | ⟨hz, hz2⟩
          all_goals
            go_wp2_with (go_at_call 64; refine (C.out _ _ ht1.out).mono ?_; rintro e w' ⟨rfl, rfl⟩; rw [hsh.out])
            go_round
            case rel => exact ⟨k + 1, x, y + 1, by omega, by go_num, rfl, by go_num, by omega, by show _ = _; rw [HX.out, HX'.out, hsh.out, hbl.out]; simp, by show _ = _; rw [HY.out, HY'.out, hsh.out, hbl.out]; simp; omega⟩
            case measure => first | (simp [intOf]; done) | (simp [intOf]; omega)
        · have hbl' := HB.out
          rw [hbl] at hbl'
          have hbl := Lib.hid hbl
          have hz : ((s[k].toNat : Int) == 32) = true ∧ ((m.toNat : Int) == 32) = true := by
            revert hbl'; cases ((s[k].toNat : Int) == 32) <;> simp
          obtain ⟨hz, hz2⟩ := hz
          clear hbl'
          go_wp2_with (go_at_call 64; refine (C.out _ _ ht1.out).mono ?_; rintro e w' ⟨rfl, rfl⟩; rw [hsh.out])
          go_round
          case rel => exact ⟨k + 1, x + 1, y, by omega, by go_num, by go_num, rfl, by omega, by show _ = _; rw [HX.out, HX'.out, hsh.out, hbl.out]; simp; omega, by show _ = _; rw [HY.out, HY'.out, hsh.out, hbl.out]; simp⟩
          case measure => first | (simp [intOf]; done) | (simp [intOf]; omega)
    · have hkk : k = s.size := by omega
      have HX2 : Hid (NU.spN m (L s) = x) := by show _ = _; rw [HX.out, drop_end s k (by omega)]; simp [NU.spN]
      have HY2 : Hid (NU.hexN m (L s) = y) := by show _ = _; rw [HY.out, drop_end s k (by omega)]; simp [NU.hexN]
      have hxs := NU.spN_le m (L s)
      have hys := NU.hexN_le m (L s)
      rw [HX2.out, L_length] at hxs
      rw [HY2.out, L_length] at hys
      clear HX HY hkk hxy
      by_cases h0 : x = 0 ∧ y = 0
      · have HE : Hid (NU.esc m (L s) = L s) := by show _ = _; exact NU.esc_same m _ (by rw [HX2.out, h0.1]) (by rw [HY2.out, h0.2])
        have hx0 : ((x : Int) == 0) = true := by simpa using h0.1
        have hy0 : ((y : Int) == 0) = true := by simpa using h0.2
        clear h0
        go_wp2
        go_ret
        exact ⟨ret_str (by rw [HE.out, mk_L]), hf1⟩
      · have h0' : ((x : Int) == 0) = false ∨ (((x : Int) == 0) = true ∧ ((y : Int) == 0) = false) := by
          by_cases h : x = 0
          · right; refine ⟨by simp [h], ?_⟩; have : y ≠ 0 := fun e => h0 ⟨h, e⟩; simpa using this
          · left; simpa using h
        clear h0
        obtain ⟨n, hn⟩ : ∃ n : Nat, n = s.size + 2 * y := ⟨_, rfl⟩
        have en : (s.size : Int) + 2 * (y : Int) = (n : Int) := by omega
        have hnb : n ≤ 70368744177664 := by omega
        have HNE : Hid ((NU.esc m (L s)).length = n) := by show _ = _; rw [NU.esc_length, HY2.out, L_length, hn]
        have HNY : Hid (n = s.size + 2 * y) := hn
        clear hn
        rcases h0' with hx0 | ⟨hx0, hy0⟩
        all_goals
          go_upto_if 50 with fail
          go_cut [10] (fun t wx => ∃ g cap, t = .slice (some ⟨g, 0, none⟩) n cap ∧ Fr w wx ∧ w.heap.size ≤ g ∧ Hid (BRow wx g (List.replicate n 0)))
          case first =>
            have hB64 : Hid (BRow (w1.alloc (.cells (Array.replicate 64 (.int .u8 0)) 92)) w1.heap.size (List.replicate 64 0)) := Lib.hid (BRow.zeros w1 64 _ _ (by intro j hj; simp [hj]))
            by_cases hc : n ≤ 64
            · have hci : (n : Int) ≤ 64 := by omega
              have HT := Lib.hid (hB64.out.take n (by rw [List.length_replicate]; exact hc))
              have e1 : (List.replicate 64 (0 : UInt8)).take n = List.replicate n 0 := by rw [List.take_replicate, Nat.min_eq_left hc]
              rw [e1] at HT
              clear e1
              go_wp2
              go_meet
              case rel => exact ⟨_, _, rfl, hf1.alloc _, hf1.size, HT⟩
            · have hci : ¬ (n : Int) ≤ 64 := by omega
              have hmk := make_bytes n hnb
              go_wp2
              go_meet
              case rel => exact ⟨_, _, rfl, (hf1.alloc _).alloc _, by have := hf1.size; omega, Lib.hid (BRow.zeros_at (by simp) _ _)⟩
          case rest =>
            obtain ⟨g2, cap2, rfl, hfx, hg2, HT⟩ := hcut
            clear hr hcv ht1 hf1 hg
            by_cases hy : y = 0
            · first
              | (exfalso; simp [hy] at hy0; done)
              | (have hm : m = 32 := NU.spN_query m (L s) (by rw [HX2.out]; simpa using hx0)
                 have HE : Hid (NU.esc m (L s) = (L s).map NU.sp43) := by show _ = _; rw [hm]; exact NU.esc_blank _ (by rw [← hm, HY2.out, hy])
                 have hns : n = s.size := by rw [HNY.out, hy]; omega
                 obtain ⟨w5, hcp, hf5, HB5⟩ := copy_str (cap := cap2) s HT.out (by rw [List.length_replicate]; exact hns) hns hfx hg2
                 replace HB5 := Lib.hid HB5
                 have hn1 : n ≤ s.size := by omega
                 have hn2 : s.size ≤ n := by omega
                 clear hns
                 have hy0 : ((y : Int) == 0) = true := by simpa using hy
                 clear hy hm HT
                 go_wp2
                 go_loopw [12] (fun i wr => ∃ k : Nat, k ≤ s.size ∧ i = .int .i64 (k : Int) ∧ Fr w wr ∧ Hid (BRow wr g2 (((L s).take k).map NU.sp43 ++ (L s).drop k))) (fun i _ => s.size - (intOf i).toNat)
                 case atStart => exact ⟨0, by omega, rfl, hf5, by show BRow _ _ _; simpa using HB5.out⟩
                 case round =>
                   obtain ⟨k, hk, rfl, hfr, HR⟩ := hrel
                   by_cases hlt : k < s.size
                   · have hl0 : (((L s).take k).map NU.sp43).length = k := by rw [List.length_map, List.length_take, L_length]; omega
                     have hlen : k < (((L s).take k).map NU.sp43 ++ (L s).drop k).length := by rw [List.length_append, hl0, List.length_drop, L_length]; omega
                     have f0 : wr.frozen? ⟨g2, k, none⟩ = false := HR.out.frozen k hlen
                     have c0 := HR.out.cell k hlen
                     have hst : ((L s).take (k + 1)).map NU.sp43 ++ (L s).drop (k + 1) = (((L s).take k).map NU.sp43 ++ (L s).drop k).set k (NU.sp43 s[k]) := by
                       have e1 : (L s).take (k + 1) = (L s).take k ++ [s[k]] := by
                         rw [List.take_succ_eq_append_getElem (by rw [L_length]; exact hlt)]; rfl
                       rw [e1, List.set_append_right _ _ (by omega), hl0, Nat.sub_self, drop_cons s k hlt]; simp
                     have hat : (((L s).take k).map NU.sp43 ++ (L s).drop k)[k] = s[k] := by
                       have e0 : (((L s).take k).map NU.sp43 ++ (L s).drop k)[k]? = some s[k] := by
                         rw [List.getElem?_append_right (by omega), hl0, Nat.sub_self, drop_cons s k hlt]; rfl
                       rw [List.getElem?_eq_getElem hlen] at e0
                       exact Option.some.inj e0
                     rw [hat] at c0
                     have HNx : Hid (BRow (wr.setCell ⟨g2, k, none⟩ (.int .u8 ((NU.sp43 s[k]).toNat : Int))) g2 (((L s).take (k + 1)).map NU.sp43 ++ (L s).drop (k + 1))) := by
                       show BRow _ _ _; rw [hst]; exact HR.out.set_ k hlen _
                     have HSm : Hid (NU.sp43 s[k] = s[k] → ((L s).take (k + 1)).map NU.sp43 ++ (L s).drop (k + 1) = ((L s).take k).map NU.sp43 ++ (L s).drop k) := by
                       show _ → _; intro e; rw [hst, e, ← hat]; exact List.set_getElem_self _
                     have hb := u8beq s[k] 32
                     clear hat hst hl0
                     by_cases hc : ((s[k].toNat : Int) == 32) = true
                     · have h43 : NU.sp43 s[k] = 43 := by unfold NU.sp43; rw [← hb, show ((32 : UInt8).toNat : Int) = 32 from rfl, hc]; rfl
                       rw [h43] at HNx
                       clear hb h43
                       go_wp2
                       go_round
                       case rel => exact ⟨k + 1, by omega, by first | rfl | go_num, hfr.setCell hg2 _, HNx⟩
                       case measure => first | (simp [intOf]; done) | (simp [intOf]; omega)
                     · have hc : ((s[k].toNat : Int) == 32) = false := by simpa using hc
                       have hsm : NU.sp43 s[k] = s[k] := by unfold NU.sp43; rw [← hb, show ((32 : UInt8).toNat : Int) = 32 from rfl, hc]; rfl
                       have HE2 := HSm.out hsm
                       replace HE2 := Lib.hid HE2
                       clear hb hsm c0
                       go_wp2
                       go_round
                       case rel => exact ⟨k + 1, by omega, by first | rfl | go_num, hfr, by show BRow _ _ _; rw [HE2.out]; exact HR.out⟩
                       case measure => first | (simp [intOf]; done) | (simp [intOf]; omega)
                   · have hkk : k = s.size := by omega
                     have hstr := HR.out.string n cap2 (by rw [List.length_append, List.length_map, List.length_take, List.length_drop, L_length]; omega)
                     have e1 : ((L s).take k).map NU.sp43 ++ (L s).drop k = NU.esc m (L s) := by
                       rw [HE.out, drop_end s k (by omega), List.take_of_length_le (by rw [L_length]; omega), List.append_nil]
                     rw [e1] at hstr
                     clear hkk e1
                     go_wp2
                     go_ret
                     exact ⟨rfl, hfr⟩)
            · have hy0 : ((y : Int) == 0) = false := by simpa using hy
              obtain ⟨g3, cap3, w6, hcv2, hf6, hg3, hr3⟩ := bytes_conv s wc
              have hne : g2 ≠ g3 := by have := HT.out.lt; omega
              have HT6 := Lib.hid (HT.out.below hf6 HT.out.lt)
              have hr3 := Lib.hid hr3
              have hf6' : Fr w w6 := hfx.trans hf6
              have ht6 := Lib.hid (ht.fr hf6')
              clear hfx hf6 HT hg3
              go_wp2
              go_loopw [13, 78] (fun jj i wr => ∃ k j : Nat, k ≤ s.size ∧ i = .int .i64 (k : Int) ∧ jj = .int .i64 (j : Int) ∧ Fr w wr ∧ Hid ((NU.esc m ((L s).take k)).length = j) ∧ Hid (BRow wr g2 (NU.esc m ((L s).take k) ++ List.replicate (n - j) 0)) ∧ Hid (BRow wr g3 (L s)) ∧ Hid (Tab wr)) (fun _ i _ => s.size - (intOf i).toNat)
              case atStart => exact ⟨0, 0, by omega, rfl, rfl, hf6', rfl, by show BRow _ _ _; simpa [NU.esc] using HT6.out, hr3, ht6⟩
              case round =>
                obtain ⟨k, j, hk, rfl, rfl, hfr, HJ, HB, HS, hT⟩ := hrel
                by_cases hlt : k < s.size
                · obtain ⟨c, hc⟩ : ∃ c, c = s[k] := ⟨_, rfl⟩
                  have c0 : wr.cell? ⟨g3, k, none⟩ = some (.int .u8 (c.toNat : Int)) := by rw [HS.out.cell k (by rw [L_length]; exact hlt), hc]; rfl
                  have HE : Hid (NU.esc m (L s) = NU.esc m ((L s).take k) ++ (NU.esc1 m c ++ NU.esc m ((L s).drop (k + 1)))) := by
                    show _ = _
                    have e1 : L s = (L s).take k ++ (L s).drop k := (List.take_append_drop k (L s)).symm
                    have e2 : NU.esc m ((L s).take k ++ (L s).drop k) = NU.esc m ((L s).take k) ++ NU.esc m ((L s).drop k) := NU.esc_app m _ _
                    rw [← e1] at e2
                    rw [e2, drop_cons s k hlt, ← hc]; rfl
                  have HT1 : Hid (NU.esc m ((L s).take (k + 1)) = NU.esc m ((L s).take k) ++ NU.esc1 m c) := by
                    show _ = _
                    have e1 : (L s).take (k + 1) = (L s).take k ++ [c] := by
                      rw [List.take_succ_eq_append_getElem (by rw [L_length]; exact hlt), hc]; rfl
                    rw [e1, NU.esc_app]; simp [NU.esc]
                  have hlen : j + (NU.esc1 m c).length ≤ n := by
                    have := HNE.out
                    rw [HE.out, List.length_append, List.length_append, HJ.out] at this; omega
                  have b1 := u8beq c 32
                  have b2 := u8beq m 32
                  have HBl : Hid (NU.blank m c = (((c.toNat : Int) == 32) && ((m.toNat : Int) == 32))) := by show _ = _; rw [show (32 : Int) = ((32 : UInt8).toNat : Int) from rfl, b1, b2]; rfl
                  clear b1 b2 HE hc
                  cases hbl : NU.blank m c
                  · have hz : ((c.toNat : Int) == 32) = false ∨ (((c.toNat : Int) == 32) = true ∧ ((m.toNat : Int) == 32) = false) := by
                      have := HBl.out; rw [hbl] at this
                      revert this; cases ((c.toNat : Int) == 32) <;> simp
                    cases hsh : NU.should m c
                    · have he : NU.esc1 m c = [c] := by rw [NU.esc1, hbl, hsh]; rfl
                      rw [he] at hlen HT1
                      simp only [List.length_cons, List.length_nil] at hlen
                      have hj : j < (NU.esc m ((L s).take k) ++ List.replicate (n - j) 0).length := by rw [List.length_append, HJ.out, List.length_replicate]; omega
                      have f1 : wr.frozen? ⟨g2, j, none⟩ = false := HB.out.frozen j hj
                      have c1 := HB.out.cell j hj
                      have HB2 : Hid (BRow (wr.setCell ⟨g2, j, none⟩ (.int .u8 (c.toNat : Int))) g2 (NU.esc m ((L s).take (k + 1)) ++ List.replicate (n - (j + 1)) 0)) := by
                        show BRow _ _ _
                        have := HB.out.next c HJ.out.symm (by omega)
                        rw [HT1.out, show n - (j + 1) = n - j - 1 by omega]; exact this
                      have HS2 : Hid (BRow (wr.setCell ⟨g2, j, none⟩ (.int .u8 (c.toNat : Int))) g3 (L s)) := Lib.hid (HS.out.far (p := ⟨g2, j, none⟩) (fun e => hne e.symm) _)
                      have HJ2 : Hid ((NU.esc m ((L s).take (k + 1))).length = j + 1) := by show _ = _; rw [HT1.out, List.length_append, HJ.out]; rfl
                      have hT2 : Hid (Tab (wr.setCell ⟨g2, j, none⟩ (.int .u8 (c.toNat : Int)))) := Lib.hid (ht.fr (hfr.setCell hg2 _))
                      have hsh := Lib.hid hsh
                      obtain ⟨vj, hvj⟩ : ∃ v, wr.cell? ⟨g2, j, none⟩ = some v := ⟨_, c1⟩
                      clear he hbl hj c1
                      rcases hz with hz | ⟨hz, hz2⟩
                      all_goals
                        go_wp2_with (go_at_call 64; refine (C.out _ _ hT.out).mono ?_; rintro e w' ⟨rfl, rfl⟩; rw [hsh.out])
                        go_roundw
                        case rel => exact ⟨k + 1, j + 1, by omega, by first | rfl | go_num, by first | rfl | go_num, hfr.setCell hg2 _, HJ2, HB2, HS2, hT2⟩
                        case measure => first | (simp [intOf]; done) | (simp [intOf]; omega)
                    · have hsh := Lib.hid hsh
                      obtain ⟨u, hu⟩ : ∃ u, u = NU.hexU (c >>> 4) := ⟨_, rfl⟩
                      obtain ⟨v, hv⟩ : ∃ v, v = NU.hexU (c &&& 15) := ⟨_, rfl⟩
                      have he : NU.esc1 m c = [37, u, v] := by rw [NU.esc1, hbl, hsh.out, hu, hv]; rfl
                      rw [he] at hlen HT1
                      simp only [List.length_cons, List.length_nil] at hlen
                      have hct := c.toNat_lt
                      have q1 : (c.toNat : Int) / 16 < 16 := by omega
                      have q2 : (0 : Int) ≤ (c.toNat : Int) / 16 := by omega
                      have q3 : (c.toNat : Int) % 16 < 16 := by omega
                      have q4 : (0 : Int) ≤ (c.toNat : Int) % 16 := by omega
                      have q5 : (j : Int) + 1 < (n : Int) := by omega
                      have q6 : (j : Int) + 2 < (n : Int) := by omega
                      have q7 : (0 : Int) ≤ (j : Int) + 1 := by omega
                      have q8 : (0 : Int) ≤ (j : Int) + 2 := by omega
                      have q9 : j < n := by omega
                      have d1 : (⟨#[48, 49, 50, 51, 52, 53, 54, 55, 56, 57, 65, 66, 67, 68, 69, 70]⟩ : ByteArray)[c.toNat / 16]'(by show c.toNat / 16 < 16; omega) = u := by rw [hu]; exact hexd_at (c >>> 4) _ (NU.shr4_nat c).symm _
                      have d2 : (⟨#[48, 49, 50, 51, 52, 53, 54, 55, 56, 57, 65, 66, 67, 68, 69, 70]⟩ : ByteArray)[c.toNat % 16]'(by show c.toNat % 16 < 16; omega) = v := by rw [hv]; exact hexd_at (c &&& 15) _ (NU.and15_nat c).symm _
                      have hl0 : (NU.esc m ((L s).take k) ++ List.replicate (n - j) 0).length = n := by rw [List.length_append, HJ.out, List.length_replicate]; omega
                      have f1 : wr.frozen? ⟨g2, j, none⟩ = false := HB.out.frozen j (by omega)
                      have f2 : wr.frozen? ⟨g2, j + 1, none⟩ = false := HB.out.frozen (j + 1) (by omega)
                      have f3 : wr.frozen? ⟨g2, j + 2, none⟩ = false := HB.out.frozen (j + 2) (by omega)
                      obtain ⟨v1, hv1⟩ : ∃ v, wr.cell? ⟨g2, j, none⟩ = some v := ⟨_, HB.out.cell j (by omega)⟩
                      obtain ⟨v2, hv2⟩ : ∃ v, wr.cell? ⟨g2, j + 1, none⟩ = some v := ⟨_, HB.out.cell (j + 1) (by omega)⟩
                      obtain ⟨v3, hv3⟩ : ∃ v, wr.cell? ⟨g2, j + 2, none⟩ = some v := ⟨_, HB.out.cell (j + 2) (by omega)⟩
                      have hFR : Fr w (((wr.setCell ⟨g2, j, none⟩ (.int .u8 37)).setCell ⟨g2, j + 1, none⟩ (.int .u8 (u.toNat : Int))).setCell ⟨g2, j + 2, none⟩ (.int .u8 (v.toNat : Int))) := ((hfr.setCell hg2 _).setCell hg2 _).setCell hg2 _
                      have HB2 : Hid (BRow (((wr.setCell ⟨g2, j, none⟩ (.int .u8 37)).setCell ⟨g2, j + 1, none⟩ (.int .u8 (u.toNat : Int))).setCell ⟨g2, j + 2, none⟩ (.int .u8 (v.toNat : Int))) g2 (NU.esc m ((L s).take (k + 1)) ++ List.replicate (n - (j + 3)) 0)) := by
                        show BRow _ _ _
                        have a1 := HB.out.next 37 HJ.out.symm (by omega)
                        have a2 := a1.next u (k := j + 1) (by rw [List.length_append, HJ.out]; rfl) (by omega)
                        have a3 := a2.next v (k := j + 2) (by rw [List.length_append, List.length_append, HJ.out]; rfl) (by omega)
                        rw [HT1.out, show n - (j + 3) = n - j - 1 - 1 - 1 by omega]
                        simpa using a3
                      have HS2 : Hid (BRow (((wr.setCell ⟨g2, j, none⟩ (.int .u8 37)).setCell ⟨g2, j + 1, none⟩ (.int .u8 (u.toNat : Int))).setCell ⟨g2, j + 2, none⟩ (.int .u8 (v.toNat : Int))) g3 (L s)) := Lib.hid (((HS.out.far (p := ⟨g2, j, none⟩) (fun e => hne e.symm) _).far (p := ⟨g2, j + 1, none⟩) (fun e => hne e.symm) _).far (p := ⟨g2, j + 2, none⟩) (fun e => hne e.symm) _)
                      have HJ2 : Hid ((NU.esc m ((L s).take (k + 1))).length = j + 3) := by show _ = _; rw [HT1.out, List.length_append, HJ.out]; rfl
                      have hT2 := Lib.hid (ht.fr hFR)
                      replace hFR := Lib.hid hFR
                      clear he hbl hl0 hu hv
                      rcases hz with hz | ⟨hz, hz2⟩
                      all_goals
                        go_wp2_with (go_at_call 64; refine (C.out _ _ hT.out).mono ?_; rintro e w' ⟨rfl, rfl⟩; rw [hsh.out])
                        go_roundw
                        case rel => exact ⟨k + 1, j + 3, by omega, by first | rfl | go_num, by first | rfl | go_num, hFR.out, HJ2, HB2, HS2, hT2⟩
                        case measure => first | (simp [intOf]; done) | (simp [intOf]; omega)
                  · have hz : ((c.toNat : Int) == 32) = true ∧ ((m.toNat : Int) == 32) = true := by
                      have := HBl.out; rw [hbl] at this
                      revert this; cases ((c.toNat : Int) == 32) <;> simp
                    obtain ⟨hz, hz2⟩ := hz
                    have he : NU.esc1 m c = [43] := by rw [NU.esc1, hbl]; rfl
                    rw [he] at hlen HT1
                    simp only [List.length_cons, List.length_nil] at hlen
                    have hj : j < (NU.esc m ((L s).take k) ++ List.replicate (n - j) 0).length := by rw [List.length_append, HJ.out, List.length_replicate]; omega
                    have f1 : wr.frozen? ⟨g2, j, none⟩ = false := HB.out.frozen j hj
                    have c1 := HB.out.cell j hj
                    have HB2 : Hid (BRow (wr.setCell ⟨g2, j, none⟩ (.int .u8 43)) g2 (NU.esc m ((L s).take (k + 1)) ++ List.replicate (n - (j + 1)) 0)) := by
                      show BRow _ _ _
                      have := HB.out.next 43 HJ.out.symm (by omega)
                      rw [HT1.out, show n - (j + 1) = n - j - 1 by omega]; exact this
                    have HS2 : Hid (BRow (wr.setCell ⟨g2, j, none⟩ (.int .u8 43)) g3 (L s)) := Lib.hid (HS.out.far (p := ⟨g2, j, none⟩) (fun e => hne e.symm) _)
                    have HJ2 : Hid ((NU.esc m ((L s).take (k + 1))).length = j + 1) := by show _ = _; rw [HT1.out, List.length_append, HJ.out]; rfl
                    have hT2 : Hid (Tab (wr.setCell ⟨g2, j, none⟩ (.int .u8 43))) := Lib.hid (ht.fr (hfr.setCell hg2 _))
                    obtain ⟨vj, hvj⟩ : ∃ v, wr.cell? ⟨g2, j, none⟩ = some v := ⟨_, c1⟩
                    clear he hbl hj c1
                    go_wp2
                    go_roundw
                    case rel => exact ⟨k + 1, j + 1, by omega, by first | rfl | go_num, by first | rfl | go_num, hfr.setCell hg2 _, HJ2, HB2, HS2, hT2⟩
                    case measure => first | (simp [intOf]; done) | (simp [intOf]; omega)
                · have hkk : k = s.size := by omega
                  have HF : Hid (NU.esc m ((L s).take k) = NU.esc m (L s)) := by show _ = _; rw [List.take_of_length_le (by rw [L_length]; omega)]
                  have hstr := HB.out.string n cap2 (by rw [List.length_append, HJ.out, List.length_replicate]; have := HNE.out; rw [← HF.out, HJ.out] at this; omega)
                  have e1 : NU.esc m ((L s).take k) ++ List.replicate (n - j) 0 = NU.esc m (L s) := by
                    have := HNE.out
                    rw [← HF.out, HJ.out] at this
                    rw [HF.out, this, Nat.sub_self]; simp
                  rw [e1] at hstr
                  clear hkk e1
                  go_wp2
                  go_ret
                  exact ⟨rfl, hfr⟩
theorem escape_m (s : ByteArray) (m : UInt8) (mi : Int) (hm : mi = (m.toNat : Int)) (hs : s.size ≤ 1099511627776) (w : World) (ht : Hid (Tab w)) :
    Calls Tryz.prog 45 #[.string s, .int .u8 mi] w fun e w' => e = .returned (.string (mk (NU.esc m (L s)))) ∧ Fr w w' := by
  subst hm; exact escape_any s m w ht.out hs
end Go.Proofs.YtibcegbacnjmfaaGreatDoor
