import Derived.Test.YtibcegbacnjmfaaGreatDoorW44
import Derived.Test.YtibcegbacnjmfaaGreatDoorW2
import Derived.IntWalk
import Derived.Deep.DeepCutAuto
import Derived.Outline
namespace Go.Proofs.YtibcegbacnjmfaaGreatDoor
set_option linter.unusedVariables false
set_option linter.unusedSimpArgs false
open Go.RowKit

def schemeOf : Nat → ByteArray
  | 0 => ⟨#[104, 116, 116, 112]⟩
  | 1 => ⟨#[97]⟩
  | 2 => ⟨#[120, 45, 121, 43, 122, 46, 49]⟩
  | _ => ⟨#[109, 97, 105, 108, 116, 111]⟩
def hostOf : Nat → ByteArray
  | 0 => ⟨#[97]⟩
  | 1 => ⟨#[101, 120, 97, 109, 112, 108, 101, 46, 99, 111, 109, 58, 56, 48]⟩
  | 2 => ⟨#[91, 58, 58, 49, 93, 58, 56, 48, 56, 48]⟩
  | 3 => ⟨#[49, 50, 55, 46, 48, 46, 48, 46, 49]⟩
  | 4 => ⟨#[65, 45, 98, 95, 99, 126, 100, 33, 36, 38, 39, 40, 41, 42, 43, 44, 59, 61]⟩
  | _ => ⟨#[104, 58]⟩
def schemesA : List Value := [.string (schemeOf 0), .string (schemeOf 1), .string (schemeOf 2), .string (schemeOf 3)]
def hostsA : List Value := [.string (hostOf 0), .string (hostOf 1), .string (hostOf 2), .string (hostOf 3), .string (hostOf 4), .string (hostOf 5)]
theorem schemes_at (i : Nat) (h : i < 4) (hl : i < schemesA.length) : schemesA[i]'hl = .string (schemeOf i) := by
  match i, h with
  | 0, _ => rfl
  | 1, _ => rfl
  | 2, _ => rfl
  | 3, _ => rfl
theorem hosts_at (i : Nat) (h : i < 6) (hl : i < hostsA.length) : hostsA[i]'hl = .string (hostOf i) := by
  match i, h with
  | 0, _ => rfl
  | 1, _ => rfl
  | 2, _ => rfl
  | 3, _ => rfl
  | 4, _ => rfl
  | 5, _ => rfl
theorem pick_mod (x : Int) (z : Nat) (hz : 0 < z) : ∃ (r : Int) (n : Nat), x.tmod (z : Int) = r ∧ -(z : Int) < r ∧ r < z ∧ (r + (z : Int)).tmod (z : Int) = (n : Int) ∧ n < z := by
  obtain ⟨r, hr⟩ : ∃ r, x.tmod (z : Int) = r := ⟨_, rfl⟩
  have h1 : r.natAbs < z := by
    rw [← hr, Int.natAbs_tmod]
    exact Nat.mod_lt _ (by simpa using hz)
  obtain ⟨m, hm⟩ := Int.eq_ofNat_of_zero_le (show 0 ≤ r + (z : Int) by omega)
  refine ⟨r, m % z, hr, by omega, by omega, ?_, Nat.mod_lt m hz⟩
  rw [hm, Int.tmod_eq_emod_of_nonneg (by omega)]; simp
/-- spec.Plain. -/
def plainI (i j : Nat) (u : IUrl) : IUrl :=
  ⟨schemeOf i, ⟨#[]⟩, u.hasUser, (if u.hasUser then u.username else ⟨#[]⟩), (u.hasUser && u.hasPassword), (if u.hasUser && u.hasPassword then u.password else ⟨#[]⟩), hostOf j,
    (if L u.path = [] then ⟨#[]⟩ else ⟨#[47]⟩ ++ u.path), ⟨#[]⟩, (u.forceQuery && (!NU.chars [58, 64, 47, 63] true (L u.rawQuery) || (L u.rawQuery).isEmpty)),
    (if NU.chars [58, 64, 47, 63] true (L u.rawQuery) then u.rawQuery else ⟨#[]⟩), u.fragment, ⟨#[]⟩, false, ⟨#[]⟩, ⟨#[]⟩⟩
def plain0 (s ho : ByteArray) : IUrl := { zeroU with scheme := s, host := ho }
def plainA (s ho : ByteArray) (hu hp : Bool) (un pw : ByteArray) : IUrl :=
  ⟨s, ⟨#[]⟩, hu, (if hu then un else ⟨#[]⟩), (hu && hp), (if hu && hp then pw else ⟨#[]⟩), ho, ⟨#[]⟩, ⟨#[]⟩, false, ⟨#[]⟩, ⟨#[]⟩, ⟨#[]⟩, false, ⟨#[]⟩, ⟨#[]⟩⟩
set_option maxRecDepth 100000 in
set_option maxHeartbeats 60000000 in
theorem Plain_any (x y : Int) (u : IUrl) (hz : u.path.size ≤ 2147483647) (hz2 : u.rawQuery.size ≤ 2147483647) (w : World) :
    Calls Tryz.prog 11 #[.int .i64 x, .int .i64 y, .agg (iurlA u)] w fun e w' => (∃ i j, i < 4 ∧ j < 6 ∧ e = .returned (.agg (iurlA (plainI i j u)))) ∧ Fr w w' := by
  obtain ⟨r1, i, e1, e2, e3, e4, hi⟩ := pick_mod x 4 (by omega)
  obtain ⟨r2, j, d1, d2, d3, d4, hj⟩ := pick_mod y 6 (by omega)
  simp only [Int.cast_ofNat_Int] at e1 e2 e3 e4 d1 d2 d3 d4
  obtain ⟨s, hs⟩ : ∃ s, s = schemeOf i := ⟨_, rfl⟩
  obtain ⟨ho, hho⟩ : ∃ ho, ho = hostOf j := ⟨_, rfl⟩
  have si : ∀ h : i < 4, ([.string ⟨#[104, 116, 116, 112]⟩, .string ⟨#[97]⟩, .string ⟨#[120, 45, 121, 43, 122, 46, 49]⟩, .string ⟨#[109, 97, 105, 108, 116, 111]⟩] : List Value)[i]'h = .string s := fun h => by rw [hs]; exact schemes_at i hi h
  have hji : ∀ h : j < 6, ([.string ⟨#[97]⟩, .string ⟨#[101, 120, 97, 109, 112, 108, 101, 46, 99, 111, 109, 58, 56, 48]⟩, .string ⟨#[91, 58, 58, 49, 93, 58, 56, 48, 56, 48]⟩, .string ⟨#[49, 50, 55, 46, 48, 46, 48, 46, 49]⟩, .string ⟨#[65, 45, 98, 95, 99, 126, 100, 33, 36, 38, 39, 40, 41, 42, 43, 44, 59, 61]⟩, .string ⟨#[104, 58]⟩] : List Value)[j]'h = .string ho := fun h => by rw [hho]; exact hosts_at j hj h
  obtain ⟨sc, op, hu, un, hp, pw, hst, pa, rp, fq, rq, fr, rf, oh, ep, ef⟩ := u
  dsimp only [iurlA]
  go_enter Tryz.func11, Tryz.ntmps11
  go_upto_region 1 with fail
  obtain ⟨W0, hW0⟩ : ∃ W0, W0 = ((w.alloc (.cells (iurlA ⟨sc, op, hu, un, hp, pw, hst, pa, rp, fq, rq, fr, rf, oh, ep, ef⟩) 28)).alloc (.cells (iurlA zeroU) 28)) := ⟨_, rfl⟩
  have hFW : Fr w W0 := by rw [hW0]; exact ((Fr.refl _).alloc _).alloc _
  have hBX : Hid (Blk W0 w.heap.size 28 (iurlA ⟨sc, op, hu, un, hp, pw, hst, pa, rp, fq, rq, fr, rf, oh, ep, ef⟩)) := by rw [hW0]; exact Lib.hid ((Blk.new _ _ _).alloc _)
  have hBR : Hid (Blk W0 (w.heap.size + 1) 28 (iurlA zeroU)) := by rw [hW0]; exact Lib.hid (Blk.new_at (by simp))
  have hsz : Hid (W0.heap.size = w.heap.size + 2) := by show _ = _; rw [hW0]; simp
  dsimp only [iurlA, zeroU] at hW0
  rw [← hW0]
  clear hW0
  go_cut [7] (fun c wx => ∃ g7, c = .pointer (some ⟨g7, 0, none⟩) ∧ W0.heap.size ≤ g7 ∧ Fr W0 wx ∧ Hid (Blk wx g7 28 (iurlA (plain0 s ho))))
  case first =>
      clear hFW hBX hBR hsz
      go_big_region
      all_goals go_wp2
      all_goals go_meet
      all_goals
        refine ⟨_, rfl, ?_, ((((Fr.refl _).alloc _).alloc _).alloc _).drew, ?_⟩
        · first | exact Nat.le_refl _ | omega
        · rw [← hs, ← hho]
          first
            | exact Lib.hid (Blk.drew (Blk.new_at (by simp)))
            | exact Lib.hid (Blk.drew ((Blk.new_at (by simp)).alloc _))
            | exact Lib.hid (Blk.drew (((Blk.new_at (by simp)).alloc _).alloc _))
  case rest =>
  as_aux_lemma =>
  obtain ⟨g7, rfl, hg7, hf1, hB1⟩ := hcut
  have hz3 : pa.size ≤ 2147483647 := hz
  have hz4 : rq.size ≤ 2147483647 := hz2
  have hFx : Hid (Fr w wc) := Lib.hid (hFW.trans hf1)
  have hX1 := Lib.hid (hBX.out.below hf1 hBX.out.lt)
  have hR1 := Lib.hid (hBR.out.below hf1 hBR.out.lt)
  have hne : w.heap.size + 2 ≤ g7 := by have := hsz.out; omega
  have hgw : w.heap.size ≤ g7 := by omega
  have n1 : w.heap.size ≠ g7 := by omega
  have n2 : w.heap.size + 1 ≠ g7 := by omega
  clear hf1 hFW hBX hBR hsz hg7 si hji e1 e2 e3 e4 d1 d2 d3 d4
  dsimp only [iurlA] at hX1
  have x2 : wc.cell? ⟨w.heap.size, 2, none⟩ = some (.bool hu) := hX1.out.cell 2
  have o2 : wc.cell? ⟨g7, 2, none⟩ = some (.bool false) := hB1.out.cell 2
  have f2 := hB1.out.frozen 2
  have x2' : ∀ v, (wc.setCell ⟨g7, 2, none⟩ v).cell? ⟨w.heap.size, 2, none⟩ = some (.bool hu) := fun v => (hX1.out.far (p := ⟨g7, 2, none⟩) n1 v).cell 2
  go_upto_if 27 with fail
  go_cut [26] (fun _ wx => Fr w wx ∧ Hid (Blk wx w.heap.size 28 (iurlA ⟨sc, op, hu, un, hp, pw, hst, pa, rp, fq, rq, fr, rf, oh, ep, ef⟩)) ∧ Hid (Blk wx (w.heap.size + 1) 28 (iurlA zeroU)) ∧ Hid (Blk wx g7 28 (iurlA (plainA s ho hu hp un pw))))
  case first =>
    as_aux_lemma =>
      have hB2 : Hid (Blk (wc.setCell ⟨g7, 2, none⟩ (.bool hu)) g7 28 (iurlA { plain0 s ho with hasUser := hu })) := Lib.hid (hB1.out.set_ 2 _)
      have hX2 := Lib.hid (hX1.out.far (p := ⟨g7, 2, none⟩) n1 (.bool hu))
      have hR2 := Lib.hid (hR1.out.far (p := ⟨g7, 2, none⟩) n2 (.bool hu))
      have hF2 : Fr w (wc.setCell ⟨g7, 2, none⟩ (.bool hu)) := hFx.out.setCell (p := ⟨g7, 2, none⟩) hgw _
      obtain ⟨W2, hW2⟩ : ∃ W2, W2 = wc.setCell ⟨g7, 2, none⟩ (.bool hu) := ⟨_, rfl⟩
      rw [← hW2] at hB2 hX2 hR2 hF2 ⊢
      clear x2' hW2 hX1 hR1 hB1 x2 o2 f2 hFx
      have x3 : W2.cell? ⟨w.heap.size, 3, none⟩ = some (.string un) := hX2.out.cell 3
      have x4 : W2.cell? ⟨w.heap.size, 4, none⟩ = some (.bool hp) := hX2.out.cell 4
      have o3 : W2.cell? ⟨g7, 3, none⟩ = some (.string ⟨#[]⟩) := hB2.out.cell 3
      have o4 : W2.cell? ⟨g7, 4, none⟩ = some (.bool false) := hB2.out.cell 4
      have f3 := hB2.out.frozen 3
      have f4 := hB2.out.frozen 4
      cases hu
      · go_wp2
        go_meet
        case rel => exact ⟨hF2, hX2.out, hR2.out, hB2.out⟩
      · have x3' : ∀ v, (W2.setCell ⟨g7, 4, none⟩ v).cell? ⟨w.heap.size, 3, none⟩ = some (.string un) := fun v => (hX2.out.far (p := ⟨g7, 4, none⟩) n1 v).cell 3
        have x4' : ∀ v, (W2.setCell ⟨g7, 3, none⟩ v).cell? ⟨w.heap.size, 4, none⟩ = some (.bool hp) := fun v => (hX2.out.far (p := ⟨g7, 3, none⟩) n1 v).cell 4
        have o3' : ∀ v, (W2.setCell ⟨g7, 4, none⟩ v).cell? ⟨g7, 3, none⟩ = some (.string ⟨#[]⟩) := fun v => (hB2.out.set_ 4 v).cell 3
        have o4' : ∀ v, (W2.setCell ⟨g7, 3, none⟩ v).cell? ⟨g7, 4, none⟩ = some (.bool false) := fun v => (hB2.out.set_ 3 v).cell 4
        go_wp2_with fail
        go_region
        obtain ⟨W3, hW3⟩ : ∃ W3, W3 = ((W2.setCell ⟨g7, 3, none⟩ (.string un)).setCell ⟨g7, 4, none⟩ (.bool hp)).drew := ⟨_, rfl⟩
        have hF3 : Fr w W3 := by rw [hW3]; exact ((hF2.setCell (p := ⟨g7, 3, none⟩) hgw _).setCell (p := ⟨g7, 4, none⟩) hgw _).drew
        have hX3 : Hid (Blk W3 w.heap.size 28 (iurlA ⟨sc, op, true, un, hp, pw, hst, pa, rp, fq, rq, fr, rf, oh, ep, ef⟩)) := by rw [hW3]; exact Lib.hid (((hX2.out.far (p := ⟨g7, 3, none⟩) n1 _).far (p := ⟨g7, 4, none⟩) n1 _).drew)
        have hR3 : Hid (Blk W3 (w.heap.size + 1) 28 (iurlA zeroU)) := by rw [hW3]; exact Lib.hid (((hR2.out.far (p := ⟨g7, 3, none⟩) n2 _).far (p := ⟨g7, 4, none⟩) n2 _).drew)
        have hB3 : Hid (Blk W3 g7 28 (iurlA { plain0 s ho with hasUser := true, username := un, hasPassword := hp })) := by rw [hW3]; exact Lib.hid (((hB2.out.set_ 3 _).set_ 4 _).drew)
        rw [← hW3]
        clear hW3 x3' x4' o3' o4' x3 x4 o3 o4 f3 f4 hX2 hR2 hB2 hF2
        have x4 : W3.cell? ⟨w.heap.size, 4, none⟩ = some (.bool hp) := hX3.out.cell 4
        have x5 : W3.cell? ⟨w.heap.size, 5, none⟩ = some (.string pw) := hX3.out.cell 5
        have o5 : W3.cell? ⟨g7, 5, none⟩ = some (.string ⟨#[]⟩) := hB3.out.cell 5
        have f5 := hB3.out.frozen 5
        cases hp
        · go_wp2
          go_meet
          case rel => exact ⟨hF3, hX3.out, hR3.out, hB3.out⟩
        · go_wp2
          go_meet
          case rel => exact ⟨hF3.setCell (p := ⟨g7, 5, none⟩) hgw _, hX3.out.far (p := ⟨g7, 5, none⟩) n1 _, hR3.out.far (p := ⟨g7, 5, none⟩) n2 _, hB3.out.set_ 5 _⟩
  case rest =>
  as_aux_lemma =>
  obtain ⟨hF4, hX4, hR4, hB4⟩ := hcut
  clear x2' x2 o2 f2 hX1 hR1 hB1 hFx
  have x7 : wc.cell? ⟨w.heap.size, 7, none⟩ = some (.string pa) := hX4.out.cell 7
  have o7 : wc.cell? ⟨g7, 7, none⟩ = some (.string ⟨#[]⟩) := hB4.out.cell 7
  have f7 := hB4.out.frozen 7
  go_upto_region 7 with fail
  go_cut [41] (fun c wx => c = .bool (!(L pa).isEmpty) ∧ wc = wx)
  case first =>
    as_aux_lemma =>
      by_cases hq : L pa = []
      · have q2 := L_empty hq
        have HV : Hid (Value.bool (!(L pa).isEmpty) = .bool false) := by show _ = _; rw [hq]; rfl
        clear hq
        go_wp2
        go_meet
        exact ⟨by rw [HV.out], rfl⟩
      · have q2 := L_nempty hq
        have HV : Hid (Value.bool (!(L pa).isEmpty) = .bool true) := by show _ = _; rw [show (L pa).isEmpty = false by simpa using hq]; rfl
        clear hq
        go_wp2
        go_meet
        exact ⟨by rw [HV.out], rfl⟩
  case rest =>
  as_aux_lemma =>
  obtain ⟨rfl, rfl⟩ := hcut
  obtain ⟨PA, hPA⟩ : ∃ PA, PA = if L pa = [] then (⟨#[]⟩ : ByteArray) else ⟨#[47]⟩ ++ pa := ⟨_, rfl⟩
  obtain ⟨b1, hb1⟩ : ∃ b1, b1 = !(L pa).isEmpty := ⟨_, rfl⟩
  have HPA : Hid (PA = if b1 then ⟨#[47]⟩ ++ pa else ⟨#[]⟩) := by
    show _ = _; rw [hPA, hb1]; cases hq : (L pa).isEmpty
    · rw [if_neg (by intro e; rw [e] at hq; cases hq)]; rfl
    · rw [if_pos (by simpa using hq)]; rfl
  rw [← hb1]
  replace hPA := Lib.hid hPA
  clear hb1
  go_upto_if 41 with fail
  go_cut [26] (fun _ wx => Fr w wx ∧ Hid (Blk wx w.heap.size 28 (iurlA ⟨sc, op, hu, un, hp, pw, hst, pa, rp, fq, rq, fr, rf, oh, ep, ef⟩)) ∧ Hid (Blk wx (w.heap.size + 1) 28 (iurlA zeroU)) ∧ Hid (Blk wx g7 28 (iurlA { plainA s ho hu hp un pw with path := PA })))
  case first =>
    as_aux_lemma =>
      cases b1
      · obtain rfl := HPA.out
        go_wp2
        go_meet
        case rel => exact ⟨hF4, hX4.out, hR4.out, hB4.out⟩
      · obtain rfl := HPA.out
        have q47 : (⟨#[47]⟩ : ByteArray).size = 1 := rfl
        go_wp2
        go_meet
        case rel => exact ⟨hF4.setCell (p := ⟨g7, 7, none⟩) hgw _, hX4.out.far (p := ⟨g7, 7, none⟩) n1 _, hR4.out.far (p := ⟨g7, 7, none⟩) n2 _, hB4.out.set_ 7 _⟩
  case rest =>
  as_aux_lemma =>
  obtain ⟨hF5, hX5, hR5, hB5⟩ := hcut
  clear x7 o7 f7 hX4 hR4 hB4 hF4 HPA
  obtain ⟨b2, hb2⟩ : ∃ b2, b2 = NU.chars [58, 64, 47, 63] true (L rq) := ⟨_, rfl⟩
  have CC := Lib.hid (fun W => chars_any rq ⟨#[58, 64, 47, 63]⟩ true W (by omega) (by show (4 : Nat) ≤ _; omega))
  rw [show L ⟨#[58, 64, 47, 63]⟩ = [58, 64, 47, 63] from rfl, ← hb2] at CC
  obtain ⟨RQ, hRQ⟩ : ∃ RQ, RQ = if b2 then rq else (⟨#[]⟩ : ByteArray) := ⟨_, rfl⟩
  replace hRQ := Lib.hid hRQ
  have hb2' := Lib.hid hb2
  clear hb2
  have x10 : wc.cell? ⟨w.heap.size, 10, none⟩ = some (.string rq) := hX5.out.cell 10
  go_upto_if 48 with (go_at_call 18; (with_reducible refine (CC.out _).mono ?_); rintro e w5 ⟨rfl, hf5⟩)
  replace hX5 := Lib.hid (hX5.out.below hf5 hX5.out.lt)
  replace hR5 := Lib.hid (hR5.out.below hf5 hR5.out.lt)
  replace hB5 := Lib.hid (hB5.out.below hf5 hB5.out.lt)
  replace hF5 := hF5.trans hf5
  clear hf5 x10
  have x10 : w5.cell? ⟨w.heap.size, 10, none⟩ = some (.string rq) := hX5.out.cell 10
  have o10 : w5.cell? ⟨g7, 10, none⟩ = some (.string ⟨#[]⟩) := hB5.out.cell 10
  have f10 := hB5.out.frozen 10
  go_cut [26] (fun _ wx => Fr w wx ∧ Hid (Blk wx w.heap.size 28 (iurlA ⟨sc, op, hu, un, hp, pw, hst, pa, rp, fq, rq, fr, rf, oh, ep, ef⟩)) ∧ Hid (Blk wx (w.heap.size + 1) 28 (iurlA zeroU)) ∧ Hid (Blk wx g7 28 (iurlA { plainA s ho hu hp un pw with path := PA, rawQuery := RQ })))
  case first =>
    as_aux_lemma =>
      cases b2
      · obtain rfl := hRQ.out
        go_wp2
        go_meet
        case rel => exact ⟨hF5, hX5.out, hR5.out, hB5.out⟩
      · obtain rfl := hRQ.out
        go_wp2
        go_meet
        case rel => exact ⟨hF5.setCell (p := ⟨g7, 10, none⟩) hgw _, hX5.out.far (p := ⟨g7, 10, none⟩) n1 _, hR5.out.far (p := ⟨g7, 10, none⟩) n2 _, hB5.out.set_ 10 _⟩
  case rest =>
  as_aux_lemma =>
  obtain ⟨hF6, hX6, hR6, hB6⟩ := hcut
  clear x10 o10 f10 hX5 hR5 hB5 hF5 CC
  have x9 : wc.cell? ⟨w.heap.size, 9, none⟩ = some (.bool fq) := hX6.out.cell 9
  have o10 : wc.cell? ⟨g7, 10, none⟩ = some (.string RQ) := hB6.out.cell 10
  have o9 : wc.cell? ⟨g7, 9, none⟩ = some (.bool false) := hB6.out.cell 9
  have f9 := hB6.out.frozen 9
  go_upto_region 11 with fail
  go_cut [26] (fun _ wx => Fr w wx ∧ Hid (Blk wx w.heap.size 28 (iurlA ⟨sc, op, hu, un, hp, pw, hst, pa, rp, fq, rq, fr, rf, oh, ep, ef⟩)) ∧ Hid (Blk wx (w.heap.size + 1) 28 (iurlA zeroU)) ∧ Hid (Blk wx g7 28 (iurlA { plainA s ho hu hp un pw with path := PA, rawQuery := RQ, forceQuery := fq && (L RQ).isEmpty })))
  case first =>
    as_aux_lemma =>
      cases fq
      · go_wp2
        go_meet
        case rel => exact ⟨hF6.setCell (p := ⟨g7, 9, none⟩) hgw _, hX6.out.far (p := ⟨g7, 9, none⟩) n1 _, hR6.out.far (p := ⟨g7, 9, none⟩) n2 _, hB6.out.set_ 9 _⟩
      · by_cases hq : L RQ = []
        · have q2 := L_empty hq
          have HV : Hid ((true && (L RQ).isEmpty) = true) := by show _ = _; rw [hq]; rfl
          clear hq
          go_wp2
          go_meet
          case rel => exact ⟨hF6.setCell (p := ⟨g7, 9, none⟩) hgw _, hX6.out.far (p := ⟨g7, 9, none⟩) n1 _, hR6.out.far (p := ⟨g7, 9, none⟩) n2 _, by rw [HV.out]; exact hB6.out.set_ 9 _⟩
        · have q2 := L_nempty hq
          have HV : Hid ((true && (L RQ).isEmpty) = false) := by show _ = _; rw [show (L RQ).isEmpty = false by simpa using hq]; rfl
          clear hq
          go_wp2
          go_meet
          case rel => exact ⟨hF6.setCell (p := ⟨g7, 9, none⟩) hgw _, hX6.out.far (p := ⟨g7, 9, none⟩) n1 _, hR6.out.far (p := ⟨g7, 9, none⟩) n2 _, by rw [HV.out]; exact hB6.out.set_ 9 _⟩
  case rest =>
  as_aux_lemma =>
  obtain ⟨hF7, hX7, hR7, hB7⟩ := hcut
  clear x9 o9 f9 o10 hX6 hR6 hB6 hF6
  have x11 : wc.cell? ⟨w.heap.size, 11, none⟩ = some (.string fr) := hX7.out.cell 11
  have o11 : wc.cell? ⟨g7, 11, none⟩ = some (.string ⟨#[]⟩) := hB7.out.cell 11
  have f11 := hB7.out.frozen 11
  obtain ⟨fQ, hfQ⟩ : ∃ fQ, fQ = (fq && (L RQ).isEmpty) := ⟨_, rfl⟩
  rw [← hfQ] at hB7
  have HEQ : Hid ((⟨s, ⟨#[]⟩, hu, (if hu then un else ⟨#[]⟩), (hu && hp), (if hu && hp then pw else ⟨#[]⟩), ho, PA, ⟨#[]⟩, fQ, RQ, fr, ⟨#[]⟩, false, ⟨#[]⟩, ⟨#[]⟩⟩ : IUrl) = plainI i j ⟨sc, op, hu, un, hp, pw, hst, pa, rp, fq, rq, fr, rf, oh, ep, ef⟩) := by
    show _ = _
    have e1 : fQ = (fq && (!NU.chars [58, 64, 47, 63] true (L rq) || (L rq).isEmpty)) := by
      rw [hfQ, hRQ.out, hb2'.out]
      cases NU.chars [58, 64, 47, 63] true (L rq)
      · rfl
      · rfl
    rw [e1, hs, hho, hPA.out, hRQ.out, hb2'.out]; rfl
  have hfin := hB7.out.set_ 11 (.string fr)
  replace hfin : Hid (Blk (wc.setCell ⟨g7, 11, none⟩ (.string fr)) g7 28 (iurlA ⟨s, ⟨#[]⟩, hu, (if hu then un else ⟨#[]⟩), (hu && hp), (if hu && hp then pw else ⟨#[]⟩), ho, PA, ⟨#[]⟩, fQ, RQ, fr, ⟨#[]⟩, false, ⟨#[]⟩, ⟨#[]⟩⟩)) := Lib.hid hfin
  have hrz := Lib.hid (hR7.out.far (p := ⟨g7, 11, none⟩) n2 (.string fr))
  have hFz : Fr w (wc.setCell ⟨g7, 11, none⟩ (.string fr)) := hF7.setCell (p := ⟨g7, 11, none⟩) hgw _
  rw [HEQ.out] at hfin
  go_wp2_with (first
    | (refine wpList_load_iu rfl _ rfl _ rfl _ _ hfin rfl ?_)
    | (refine wpList_store_iu rfl _ _ rfl _ _ rfl rfl _ _ hrz rfl rfl (iurlA_one _) ?_)
    | fail)
  (try simp only [Exit.inBlock, Exit.then])
  refine bodyPost_ret (ret_iu rfl _ _ _ rfl _ _ (hrz.out.row _) rfl) rfl ?_
  exact ⟨by first | exact ⟨i, j, hi, hj, rfl⟩ | exact ⟨i, hi, j, hj, rfl⟩, hFz.setRow (by omega) _⟩
end Go.Proofs.YtibcegbacnjmfaaGreatDoor
