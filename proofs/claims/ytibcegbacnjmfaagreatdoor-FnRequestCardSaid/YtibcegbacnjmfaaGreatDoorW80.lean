import Derived.Test.YtibcegbacnjmfaaGreatDoorW44
import Derived.Test.YtibcegbacnjmfaaGreatDoorP
namespace Go.Proofs.YtibcegbacnjmfaaGreatDoor
set_option linter.unusedVariables false
set_option linter.unusedSimpArgs false
open Go.RowKit

set_option maxHeartbeats 1000000 in
theorem username_nil (w : World) :
    Calls Tryz.prog 35 #[.pointer none] w fun e w' => e = .returned (.string ⟨#[]⟩) ∧ w = w' := by
  go_enter Tryz.func35, Tryz.ntmps35
  go_wp2
  go_ret
  exact ⟨rfl, rfl⟩
set_option maxHeartbeats 1000000 in
theorem password_nil (w : World) :
    Calls Tryz.prog 36 #[.pointer none] w fun e w' => e = .returned (.tuple #[.string ⟨#[]⟩, .bool false]) ∧ Fr w w' := by
  go_enter Tryz.func36, Tryz.ntmps36
  go_wp2
  all_goals go_ret2
  all_goals exact ⟨rfl, Fr.refl _⟩
theorem username_all (w : World) (v : Value) (u : Option (ByteArray × ByteArray × Bool)) (h : Hid (UserIs w v u)) :
    Calls Tryz.prog 35 #[v] w fun e w' => e = .returned (.string ((u.map (·.1)).getD ⟨#[]⟩)) ∧ w = w' := by
  match u, h.out with
  | none, h => rw [show v = .pointer none from h]; exact username_nil w
  | some (n, p, b), ⟨g, hg, hb⟩ => rw [hg]; exact username_any g n p b w (Lib.hid hb)
theorem password_all (w : World) (v : Value) (u : Option (ByteArray × ByteArray × Bool)) (h : Hid (UserIs w v u)) :
    Calls Tryz.prog 36 #[v] w fun e w' => e = .returned (.tuple #[.string ((u.map (·.2.1)).getD ⟨#[]⟩), .bool ((u.map (·.2.2)).getD false)]) ∧ Fr w w' := by
  match u, h.out with
  | none, h => rw [show v = .pointer none from h]; exact password_nil w
  | some (n, p, b), ⟨g, hg, hb⟩ => rw [hg]; exact password_any g n p b w (Lib.hid hb)

theorem esc_sz (m : UInt8) (s : ByteArray) (k : Nat) (h : s.size ≤ k) : (mk (NU.esc m (L s))).size ≤ 3 * k := by
  have h1 := NU.esc_length m (L s)
  have h2 := NU.hexN_le m (L s)
  rw [L_length] at h1 h2
  rw [mk_size]; omega
set_option maxRecDepth 100000 in
set_option maxHeartbeats 2000000 in
theorem uiString_any (k : Nat) (n p : ByteArray) (b : Bool) (hn : n.size ≤ 137438953472) (hp : p.size ≤ 137438953472) (w : World) (h : Hid (Blk w k 89 (userA n p b))) (ht : Hid (Tab w)) :
    Calls Tryz.prog 44 #[.pointer (some ⟨k, 0, none⟩)] w fun e w' => e = .returned (.string (mk (NU.uiStr (L n, L p, b)))) ∧ Fr w w' := by
  have c0 : w.cell? ⟨k, 0, none⟩ = some (.string n) := h.out.cell 0
  have CN := Lib.hid (escape_m n 16 16 rfl (by omega))
  have CP := Lib.hid (escape_m p 16 16 rfl (by omega))
  have z1 := esc_sz 16 n _ hn
  have z2 := esc_sz 16 p _ hp
  obtain ⟨en, hen⟩ : ∃ en, en = mk (NU.esc 16 (L n)) := ⟨_, rfl⟩
  obtain ⟨ep, hep⟩ : ∃ ep, ep = mk (NU.esc 16 (L p)) := ⟨_, rfl⟩
  rw [← hen] at CN z1
  rw [← hep] at CP z2
  cases b
  · have HR : Hid (mk (NU.uiStr (L n, L p, false)) = en) := by show _ = _; rw [hen]; simp [NU.uiStr]
    clear hen hep
    go_enter Tryz.func44, Tryz.ntmps44
    go_wp2_with (go_at_call 45; (with_reducible refine (CN.out _ ht).mono ?_); rintro e w1 ⟨rfl, hf1⟩; have hb1 := h.out.below hf1 h.out.lt; have c1 : w1.cell? ⟨k, 1, none⟩ = some (.string p) := hb1.cell 1; have c2 : w1.cell? ⟨k, 2, none⟩ = some (.bool false) := hb1.cell 2)
    go_ret
    exact ⟨by rw [HR.out]; rfl, hf1⟩
  · have HR : Hid (mk (NU.uiStr (L n, L p, true)) = en ++ (⟨#[58]⟩ ++ ep)) := by
      show _ = _
      refine eq_L ?_
      rw [hen, hep, L_app, L_app, L_mk, L_mk, L_mk]; simp [NU.uiStr, L]
    clear hen hep
    go_enter Tryz.func44, Tryz.ntmps44
    go_wp2_with (first
      | (go_at_call 45; (with_reducible refine (CN.out _ ht).mono ?_); rintro e w1 ⟨rfl, hf1⟩; have hb1 := h.out.below hf1 h.out.lt; have c1 : w1.cell? ⟨k, 1, none⟩ = some (.string p) := hb1.cell 1; have c2 : w1.cell? ⟨k, 2, none⟩ = some (.bool true) := hb1.cell 2)
      | (go_at_call 45; (with_reducible refine (CP.out _ (Lib.hid (ht.out.fr hf1))).mono ?_); rintro e w2 ⟨rfl, hf2⟩))
    go_ret
    exact ⟨by rw [HR.out]; rfl, hf1.trans hf2⟩
end Go.Proofs.YtibcegbacnjmfaaGreatDoor
