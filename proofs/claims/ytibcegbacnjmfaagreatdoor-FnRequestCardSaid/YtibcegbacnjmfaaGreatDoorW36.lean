import Derived.Test.YtibcegbacnjmfaaGreatDoorW23
import Derived.Test.YtibcegbacnjmfaaGreatDoorP
namespace Go.Proofs.YtibcegbacnjmfaaGreatDoor
set_option linter.unusedVariables false
set_option linter.unusedSimpArgs false
open Go.RowKit

/-- What unescape hands back as its error, in a host. -/
def UErrH (b : Bool) (ev : Value) : Prop :=
  match b with
  | true => ev = .nilIface
  | false => ∃ x, ev = .iface 103 (.string x)
def UnhPost (s : ByteArray) (e : Ending) : Prop := ∃ ev, e = .returned (.tuple #[.string (if NU.vet 4 (L s) then s else ⟨#[]⟩), ev]) ∧ UErrH (NU.vet 4 (L s)) ev
theorem unh_no {s x : ByteArray} {e : Ending} {w w' : World} (h : NU.vet 4 (L s) = false) (he : e = .returned (.tuple #[.string ⟨#[]⟩, .iface 103 (.string x)])) (hf : Fr w w') : UnhPost s e ∧ Fr w w' := by
  subst he; exact ⟨⟨.iface 103 (.string x), by rw [h]; rfl, by rw [h]; exact ⟨_, rfl⟩⟩, hf⟩
theorem unh_yes {s : ByteArray} {e : Ending} {w w' : World} (h : NU.vet 4 (L s) = true) (he : e = .returned (.tuple #[.string s, .nilIface])) (hf : Fr w w') : UnhPost s e ∧ Fr w w' := by
  subst he; exact ⟨⟨.nilIface, by rw [h]; rfl, by rw [h]; rfl⟩, hf⟩
theorem should_m (c m : UInt8) (mi : Int) (hm : mi = (m.toNat : Int)) (w : World) (ht : Hid (Tab w)) :
    Calls Tryz.prog 64 #[.int .u8 c.toNat, .int .u8 mi] w fun e w' => e = .returned (.bool (NU.should m c)) ∧ w = w' := by
  subst hm; exact should_any c m w ht.out

set_option maxRecDepth 100000 in
set_option maxHeartbeats 2000000 in
/-- A host without percent signs. -/
theorem unescape_host (s : ByteArray) (hs : s.size ≤ 35184372088832) (hp37 : Hid (∀ (k : Nat) (h : k < s.size), s[k] ≠ 37)) (w : World) (ht : Hid (Tab w)) :
    Calls Tryz.prog 60 #[.string s, .int .u8 4] w fun e w' => UnhPost s e ∧ Fr w w' := by
  go_enter Tryz.func60, Tryz.ntmps60
  go_wp2
  go_loop [0, 6, 7, 8] (fun t n hp i => ∃ (k : Nat), t = .string s ∧ n = .int .i64 0 ∧ hp = .bool false ∧ i = .int .i64 (k : Int) ∧ k ≤ s.size ∧ Hid (NU.vet 4 (L s) = NU.vet 4 ((L s).drop k))) (fun _ _ _ i => s.size - (intOf i).toNat)
  case atStart => exact ⟨0, rfl, rfl, rfl, rfl, by omega, by show _ = _; simp⟩
  case round =>
    obtain ⟨k, rfl, rfl, rfl, rfl, hk, HS⟩ := hrel
    by_cases hlt : k < s.size
    · have h37 := hp37.out k hlt
      obtain ⟨c, hcc⟩ : ∃ c, c = s[k] := ⟨_, rfl⟩
      rw [← hcc] at h37
      have b1 := u8beq c 37
      have b2 := u8beq c 43
      have hc : ((c.toNat : Int) == 37) = false := by rw [show (37 : Int) = ((37 : UInt8).toNat : Int) from rfl, b1]; simpa using h37
      have HD : Hid ((L s).drop k = c :: (L s).drop (k + 1)) := by show _ = _; rw [drop_cons s k hlt, hcc]
      have hcc' := hcc.symm
      by_cases hp : ((c.toNat : Int) == 43) = true
      · have h43 : c = 43 := by
          have e : (c == 43) = true := by rw [← b2]; exact hp
          simpa using e
        have HS' : Hid (NU.vet 4 (L s) = NU.vet 4 ((L s).drop (k + 1))) := by
          show _ = _
          rw [HS.out, HD.out, h43, NU.vet_plus]
        clear h43 b1 b2 h37 hcc
        go_wp2
        go_round
        case rel => exact ⟨k + 1, rfl, rfl, rfl, by first | rfl | go_num, by omega, HS'⟩
        case measure => first | (simp [intOf]; done) | (simp [intOf]; omega)
      · have hp : ((c.toNat : Int) == 43) = false := by simpa using hp
        have hn43 : c ≠ 43 := by intro e; rw [e] at hp; revert hp; decide
        have HS2 : Hid (NU.vet 4 (L s) = (NU.vetC 4 c && NU.vet 4 ((L s).drop (k + 1)))) := by
          show _ = _
          rw [HS.out, HD.out, NU.vet_other _ _ _ h37 hn43]
        have CS := Lib.hid (should_m c 4 4 rfl)
        clear hcc hn43 HS b1 b2 h37
        by_cases h128 : 128 ≤ c.toNat
        · have h128' : (128 : Int) ≤ (c.toNat : Int) := by omega
          have HS' : Hid (NU.vet 4 (L s) = NU.vet 4 ((L s).drop (k + 1))) := by
            show _ = _; rw [HS2.out, NU.vetC, decide_eq_true h128]; rfl
          clear h128
          go_wp2
          go_round
          case rel => exact ⟨k + 1, rfl, rfl, rfl, by first | rfl | go_num, by omega, HS'⟩
          case measure => first | (simp [intOf]; done) | (simp [intOf]; omega)
        · have h128' : (c.toNat : Int) < 128 := by omega
          cases hsh : NU.should 4 c
          · have HS' : Hid (NU.vet 4 (L s) = NU.vet 4 ((L s).drop (k + 1))) := by
              show _ = _; rw [HS2.out, NU.vetC, hsh]; simp
            rw [hsh] at CS
            clear hsh h128
            go_wp2_with (go_at_call 64; (with_reducible refine (CS.out _ ht).mono ?_); rintro e w1 ⟨rfl, rfl⟩)
            go_round
            case rel => exact ⟨k + 1, rfl, rfl, rfl, by first | rfl | go_num, by omega, HS'⟩
            case measure => first | (simp [intOf]; done) | (simp [intOf]; omega)
          · have HN : Hid (NU.vet 4 (L s) = false) := by
              show _ = _; rw [HS2.out, NU.vetC, hsh, decide_eq_false h128]; rfl
            rw [hsh] at CS
            clear hsh h128 HS2
            go_wp2_with (go_at_call 64; (with_reducible refine (CS.out _ ht).mono ?_); rintro e w1 ⟨rfl, rfl⟩)
            have i1 : (k : Int) + 1 ≤ (s.size : Int) := by omega
            have i2 : (0 : Int) ≤ (k : Int) + 1 := by omega
            have i3 : (k : Int) ≤ (k : Int) + 1 := by omega
            have w1 : IntKind.i64.wrap ((k : Int) + 1) = (k : Int) + 1 := by rw [IntKind.wrap_i64]; omega
            have t1 : ((k : Int) + 1).toNat = k + 1 := by omega
            go_region
            all_goals go_wp2
            all_goals go_ret2
            all_goals exact unh_no HN.out rfl (Fr.of_q ⟨1, rfl⟩)
    · have HU : Hid (NU.vet 4 (L s) = true) := by show _ = _; rw [HS.out, drop_end s k (by omega)]; rfl
      clear HS
      go_wp2
      go_ret2
      exact unh_yes HU.out rfl (Fr.refl _)
end Go.Proofs.YtibcegbacnjmfaaGreatDoor
