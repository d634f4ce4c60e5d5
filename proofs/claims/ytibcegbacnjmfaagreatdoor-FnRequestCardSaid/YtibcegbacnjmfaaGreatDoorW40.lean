import Derived.Test.YtibcegbacnjmfaaGreatDoorW39
import Derived.Test.YtibcegbacnjmfaaGreatDoorW13
namespace Go.Proofs.YtibcegbacnjmfaaGreatDoor
set_option linter.unusedVariables false
set_option linter.unusedSimpArgs false
open Go.RowKit

def userBA (u : NU.PUser) : Option (ByteArray × ByteArray × Bool) := u.map (fun x => (mk x.1, mk x.2.1, x.2.2))
set_option maxHeartbeats 400000 in
theorem user_any (n : ByteArray) (w : World) :
    Calls Tryz.prog 40 #[.string n] w fun e w' => (∃ g, e = .returned (.pointer (some ⟨g, 0, none⟩)) ∧ Blk w' g 89 (userA n ⟨#[]⟩ false)) ∧ Fr w w' := by
  go_enter Tryz.func40, Tryz.ntmps40
  go_wp2
  go_ret
  exact ⟨⟨_, rfl, Blk.new _ _ _⟩, (Fr.refl _).alloc _⟩
set_option maxHeartbeats 400000 in
theorem userPw_any (n p : ByteArray) (w : World) :
    Calls Tryz.prog 39 #[.string n, .string p] w fun e w' => (∃ g, e = .returned (.pointer (some ⟨g, 0, none⟩)) ∧ Blk w' g 89 (userA n p true)) ∧ Fr w w' := by
  go_enter Tryz.func39, Tryz.ntmps39
  go_wp2
  go_ret
  exact ⟨⟨_, rfl, Blk.new _ _ _⟩, (Fr.refl _).alloc _⟩

def AuPost (o : Option (NU.PUser × List UInt8)) (w : World) (e : Ending) (w' : World) : Prop :=
  Fr w w' ∧ match o with
  | none => ∃ v, ErrV v ∧ e = .returned (.tuple #[.pointer none, .string ⟨#[]⟩, v])
  | some (us, h) => ∃ uv, e = .returned (.tuple #[uv, .string (mk h), .nilIface]) ∧ UserIs w' uv (userBA us)
theorem au_no {o : Option (NU.PUser × List UInt8)} {w w' : World} {e : Ending} {v : Value} (ho : o = none) (hv : ErrV v) (he : e = .returned (.tuple #[.pointer none, .string ⟨#[]⟩, v])) (hf : Fr w w') : AuPost o w e w' := by
  subst ho; exact ⟨hf, v, hv, he⟩
theorem au_yes {o : Option (NU.PUser × List UInt8)} {w w' : World} {e : Ending} {uv : Value} {us : NU.PUser} {h : List UInt8} {s : ByteArray} (ho : o = some (us, h)) (hs : mk h = s) (he : e = .returned (.tuple #[uv, .string s, .nilIface])) (hu : UserIs w' uv (userBA us)) (hf : Fr w w') : AuPost o w e w' := by
  subst ho; exact ⟨hf, uv, by rw [he, hs], hu⟩
theorem auE (o : Option (List UInt8)) (h : o = none) {e : Ending} (hp : PhPost o e) : ∃ v, Hid (ErrV v) ∧ e = .returned (.tuple #[.string ⟨#[]⟩, v]) := by subst h; exact hp
theorem auS (o : Option (List UInt8)) (x : List UInt8) (h : o = some x) {e : Ending} (hp : PhPost o e) : e = .returned (.tuple #[.string (mk x), .nilIface]) := by subst h; exact hp
theorem uns16 (s : ByteArray) (hs : s.size ≤ 35184372088832) (o : Option (List UInt8)) (h : NU.dec false (L s) = o) (W : World) (ht : Hid (Tab W)) :
    Calls Tryz.prog 60 #[.string s, .int .u8 16] W fun e w' => PhPost o e ∧ Fr W w' := by
  subst h
  refine (unescape_any s 16 false W ht.out hs rfl rfl rfl).mono ?_
  rintro e w' ⟨⟨ev, rfl, hu⟩, hf⟩
  refine ⟨?_, hf⟩
  cases hd : NU.dec false (L s) with
  | none => rw [hd] at hu; obtain ⟨x, rfl⟩ := hu; exact ⟨_, ⟨_, _, rfl⟩, rfl⟩
  | some l => rw [hd] at hu; have hu : ev = .nilIface := hu; subst hu; rfl

set_option maxRecDepth 100000 in
set_option maxHeartbeats 8000000 in
theorem parseAuth_nouser (sc a : ByteArray) (ha : a.size ≤ 274877906944) (hl : NU.lastIdx 64 (L a) < 0)
    (CH : Hid (∀ W, Hid (Tab W) → Calls Tryz.prog 71 #[.string sc, .string a] W fun e w' => PhPost (NU.parseHost (L sc) (L a)) e ∧ Fr W w')) (w : World) (ht : Hid (Tab w)) :
    Calls Tryz.prog 58 #[.string sc, .string a] w fun e w' => AuPost (NU.parseAuth (L sc) (L a)) w e w' := by
  have C1 := Lib.hid (fun W => LastIndex1_any a 64 W (by omega))
  have HF : Hid (NU.parseAuth (L sc) (L a) = (NU.parseHost (L sc) (L a)).map (fun h => (none, h))) := by show _ = _; rw [NU.parseAuth, if_pos hl]
  have hlo := NU.lastIdx_lo 64 (L a)
  have hi1 : NU.lastIdx 64 (L a) = -1 := by omega
  rw [hi1] at C1
  clear hl hlo hi1
  cases hp : NU.parseHost (L sc) (L a) with
  | none =>
    have HP := Lib.hid hp
    clear hp
    go_enter Tryz.func58, Tryz.ntmps58
    go_wp2_with (first
      | (go_at_call 70; (with_reducible refine (C1.out _).mono ?_); rintro e w1 ⟨rfl, rfl⟩)
      | (go_at_call 71; (with_reducible refine (CH.out _ ht).mono ?_); rintro e w2 ⟨hpp, hf2⟩; obtain ⟨v, hv, rfl⟩ := auE _ HP.out hpp; obtain ⟨tt, xx, rfl⟩ := hv.out))
    go_ret3
    exact au_no (by rw [HF.out, HP.out]; rfl) hv.out rfl hf2
  | some h =>
    have HP := Lib.hid hp
    clear hp
    go_enter Tryz.func58, Tryz.ntmps58
    go_wp2_with (first
      | (go_at_call 70; (with_reducible refine (C1.out _).mono ?_); rintro e w1 ⟨rfl, rfl⟩)
      | (go_at_call 71; (with_reducible refine (CH.out _ ht).mono ?_); rintro e w2 ⟨hpp, hf2⟩; have hpq := auS _ _ HP.out hpp; subst hpq))
    go_ret3
    exact au_yes (us := none) (by rw [HF.out, HP.out]; rfl) rfl rfl rfl hf2

set_option maxRecDepth 100000 in
set_option maxHeartbeats 8000000 in
theorem parseAuth_user (sc a : ByteArray) (i : Nat) (ha : a.size ≤ 274877906944) (hl : NU.lastIdx 64 (L a) = i)
    (CH : Hid (∀ W, Hid (Tab W) → Calls Tryz.prog 71 #[.string sc, .string (a.extract (i + 1) a.size)] W fun e w' => PhPost (NU.parseHost (L sc) ((L a).drop (i + 1))) e ∧ Fr W w')) (w : World) (ht : Hid (Tab w)) :
    Calls Tryz.prog 58 #[.string sc, .string a] w fun e w' => AuPost (NU.parseAuth (L sc) (L a)) w e w' := by
  have C1 := Lib.hid (fun W => LastIndex1_any a 64 W (by omega))
  have CN := Lib.hid (fun s W => errNew_any s W)
  have hhi := NU.lastIdx_hi 64 (L a)
  rw [L_length] at hhi
  obtain ⟨u, hu⟩ : ∃ u, u = a.extract 0 i := ⟨_, rfl⟩
  have HF : Hid (NU.parseAuth (L sc) (L a) = match NU.parseHost (L sc) ((L a).drop (i + 1)), NU.parseUser (L u) with | some h, some x => some (some x, h) | _, _ => none) := by
    show _ = _; rw [NU.parseAuth, if_neg (by omega), hl, Int.toNat_natCast, hu, ext_to, L_mk]
    generalize NU.parseHost (L sc) _ = A
    generalize NU.parseUser _ = B
    cases A <;> cases B <;> rfl
  rw [hl] at C1 hhi
  have hia : i + 1 ≤ a.size := by omega
  have huz : u.size ≤ 274877906944 := by rw [hu, ext_to, mk_size, List.length_take, L_length]; omega
  have CV := Lib.hid (fun W => validUserinfo_any u W (by omega))
  have CC := Lib.hid (zzContains_any u ⟨#[58]⟩ (by omega) (by show (1 : Nat) ≤ 35184372088832; omega))
  have CT := Lib.hid (fun W => zzCut_any u ⟨#[58]⟩ W (by omega) (by show (1 : Nat) ≤ 35184372088832; omega))
  rw [show L ⟨#[58]⟩ = [58] from rfl] at CC CT
  have hu' := hu.symm
  clear hl hu
  cases hp : NU.parseHost (L sc) ((L a).drop (i + 1)) with
  | none =>
    have HP := Lib.hid hp
    clear hp
    go_enter Tryz.func58, Tryz.ntmps58
    go_wp2_with (first
      | (go_at_call 70; (with_reducible refine (C1.out _).mono ?_); rintro e w1 ⟨rfl, rfl⟩)
      | (go_at_call 71; (with_reducible refine (CH.out _ ht).mono ?_); rintro e w2 ⟨hpp, hf2⟩; obtain ⟨v, hv, rfl⟩ := auE _ HP.out hpp; obtain ⟨tt, xx, rfl⟩ := hv.out))
    go_ret3
    exact au_no (by rw [HF.out, HP.out]) hv.out rfl hf2
  | some h =>
    have HP := Lib.hid hp
    clear hp
    cases hvu : NU.validUserinfo (L u)
    · have HK : Hid (NU.parseUser (L u) = none) := by show _ = _; rw [NU.parseUser, hvu]; rfl
      rw [hvu] at CV
      clear hvu
      go_enter Tryz.func58, Tryz.ntmps58
      go_wp2_with (first
        | (go_at_call 70; (with_reducible refine (C1.out _).mono ?_); rintro e w1 ⟨rfl, rfl⟩)
        | (go_at_call 71; (with_reducible refine (CH.out _ ht).mono ?_); rintro e w2 ⟨hpp, hf2⟩; have hpq := auS _ _ HP.out hpp; subst hpq)
        | (go_at_call 72; (with_reducible refine (CV.out _).mono ?_); rintro e w3 ⟨rfl, hf3⟩)
        | (go_at_call 53; (with_reducible refine (CN.out _ _).mono ?_); rintro e w4 ⟨⟨v, hv, rfl⟩, hf4⟩; replace hv := Lib.hid hv))
      go_ret3
      exact au_no (by rw [HF.out, HP.out, HK.out]) hv.out.v rfl ((hf2.trans hf3).trans hf4)
    · rw [hvu] at CV
      by_cases hc : NU.fsub [58] (L u) < 0
      · have HK : Hid (NU.parseUser (L u) = (NU.dec false (L u)).map (fun x => (x, [], false))) := by show _ = _; rw [NU.parseUser, hvu, if_neg (by simp), if_pos hc]
        rw [decide_eq_false (by omega)] at CC
        clear hvu hc
        cases hd : NU.dec false (L u) with
        | none =>
          have CD := Lib.hid (uns16 u (by omega) _ hd)
          rw [hd] at HK
          clear hd
          go_enter Tryz.func58, Tryz.ntmps58
          go_wp2_with (first
            | (go_at_call 70; (with_reducible refine (C1.out _).mono ?_); rintro e w1 ⟨rfl, rfl⟩)
            | (go_at_call 71; (with_reducible refine (CH.out _ ht).mono ?_); rintro e w2 ⟨hpp, hf2⟩; have hpq := auS _ _ HP.out hpp; subst hpq)
            | (go_at_call 72; (with_reducible refine (CV.out _).mono ?_); rintro e w3 ⟨rfl, hf3⟩)
            | (go_at_call 48; (with_reducible refine (CC.out _).mono ?_); rintro e w4 ⟨rfl, rfl⟩)
            | (go_at_call 60; (with_reducible refine (CD.out _ (Lib.hid (ht.out.fr (hf2.trans hf3)))).mono ?_); rintro e w5 ⟨hppw5, hf5⟩; obtain ⟨v, hv, rfl⟩ := auE _ rfl hppw5; obtain ⟨tt, xx, rfl⟩ := hv.out))
          go_ret3
          exact au_no (by rw [HF.out, HP.out, HK.out]; rfl) hv.out rfl ((hf2.trans hf3).trans hf5)
        | some x =>
          have CD := Lib.hid (uns16 u (by omega) _ hd)
          rw [hd] at HK
          clear hd
          go_enter Tryz.func58, Tryz.ntmps58
          go_wp2_with (first
            | (go_at_call 70; (with_reducible refine (C1.out _).mono ?_); rintro e w1 ⟨rfl, rfl⟩)
            | (go_at_call 71; (with_reducible refine (CH.out _ ht).mono ?_); rintro e w2 ⟨hpp, hf2⟩; have hpq := auS _ _ HP.out hpp; subst hpq)
            | (go_at_call 72; (with_reducible refine (CV.out _).mono ?_); rintro e w3 ⟨rfl, hf3⟩)
            | (go_at_call 48; (with_reducible refine (CC.out _).mono ?_); rintro e w4 ⟨rfl, rfl⟩)
            | (go_at_call 60; (with_reducible refine (CD.out _ (Lib.hid (ht.out.fr (hf2.trans hf3)))).mono ?_); rintro e w5 ⟨hppw5, hf5⟩; have hpqw5 := auS _ _ rfl hppw5; subst hpqw5)
            | (go_at_call 40; refine (user_any _ _).mono ?_; rintro e w6 ⟨⟨gu, rfl, hbu⟩, hf6⟩; replace hbu := Lib.hid hbu))
          go_ret3
          exact au_yes (us := some (x, [], false)) (by rw [HF.out, HP.out, HK.out]; rfl) rfl rfl ⟨gu, rfl, hbu.out⟩ (((hf2.trans hf3).trans hf5).trans hf6)
      · obtain ⟨n, hn⟩ : ∃ n, n = mk (NU.cutB [58] (L u)) := ⟨_, rfl⟩
        obtain ⟨q, hq⟩ : ∃ q, q = mk (NU.cutA [58] (L u)) := ⟨_, rfl⟩
        have hnz : n.size ≤ 274877906944 := by
          rw [hn, mk_size, NU.cutB]; split
          · rw [L_length]; omega
          · rw [List.length_take, L_length]; omega
        have hqz : q.size ≤ 274877906944 := by
          rw [hq, mk_size, NU.cutA]; split
          · simp
          · rw [List.length_drop, L_length]; omega
        have HK : Hid (NU.parseUser (L u) = match NU.dec false (L n), NU.dec false (L q) with | some x, some y => some (x, y, true) | _, _ => none) := by
          show _ = _; rw [NU.parseUser, hvu, if_neg (by simp), if_neg hc, hn, hq, L_mk, L_mk]
          generalize NU.dec false (NU.cutB _ _) = A
          generalize NU.dec false (NU.cutA _ _) = B
          cases A <;> cases B <;> rfl
        rw [decide_eq_true (by omega)] at CC
        rw [← hn, ← hq] at CT
        clear hvu hc hn hq
        cases hd : NU.dec false (L n) with
        | none =>
          have CD := Lib.hid (uns16 n (by omega) _ hd)
          rw [hd] at HK
          clear hd
          go_enter Tryz.func58, Tryz.ntmps58
          go_wp2_with (first
            | (go_at_call 70; (with_reducible refine (C1.out _).mono ?_); rintro e w1 ⟨rfl, rfl⟩)
            | (go_at_call 71; (with_reducible refine (CH.out _ ht).mono ?_); rintro e w2 ⟨hpp, hf2⟩; have hpq := auS _ _ HP.out hpp; subst hpq)
            | (go_at_call 72; (with_reducible refine (CV.out _).mono ?_); rintro e w3 ⟨rfl, hf3⟩)
            | (go_at_call 48; (with_reducible refine (CC.out _).mono ?_); rintro e w4 ⟨rfl, rfl⟩)
            | (go_at_call 32; (with_reducible refine (CT.out _).mono ?_); rintro e w4 ⟨rfl, n4, rfl⟩)
            | (go_at_call 60; (with_reducible refine (CD.out _ (Lib.hid (ht.out.fr ((hf2.trans hf3).drewN _)))).mono ?_); rintro e w5 ⟨hppw5, hf5⟩; obtain ⟨v, hv, rfl⟩ := auE _ rfl hppw5; obtain ⟨tt, xx, rfl⟩ := hv.out))
          go_ret3
          exact au_no (by rw [HF.out, HP.out, HK.out]) hv.out rfl (((hf2.trans hf3).drewN _).trans hf5)
        | some x =>
          have CD := Lib.hid (uns16 n (by omega) _ hd)
          rw [hd] at HK
          clear hd
          cases he : NU.dec false (L q) with
          | none =>
            have CE := Lib.hid (uns16 q (by omega) _ he)
            rw [he] at HK
            clear he
            go_enter Tryz.func58, Tryz.ntmps58
            go_wp2_with (first
              | (go_at_call 70; (with_reducible refine (C1.out _).mono ?_); rintro e w1 ⟨rfl, rfl⟩)
              | (go_at_call 71; (with_reducible refine (CH.out _ ht).mono ?_); rintro e w2 ⟨hpp, hf2⟩; have hpq := auS _ _ HP.out hpp; subst hpq)
              | (go_at_call 72; (with_reducible refine (CV.out _).mono ?_); rintro e w3 ⟨rfl, hf3⟩)
              | (go_at_call 48; (with_reducible refine (CC.out _).mono ?_); rintro e w4 ⟨rfl, rfl⟩)
              | (go_at_call 32; (with_reducible refine (CT.out _).mono ?_); rintro e w4 ⟨rfl, n4, rfl⟩)
              | (go_at_call 60; (with_reducible refine (CD.out _ (Lib.hid (ht.out.fr ((hf2.trans hf3).drewN _)))).mono ?_); rintro e w5 ⟨hppw5, hf5⟩; have hpqw5 := auS _ _ rfl hppw5; subst hpqw5)
              | (go_at_call 60; (with_reducible refine (CE.out _ (Lib.hid (ht.out.fr (((hf2.trans hf3).drewN _).trans hf5)))).mono ?_); rintro e w7 ⟨hppw7, hf7⟩; obtain ⟨v, hv, rfl⟩ := auE _ rfl hppw7; obtain ⟨tt, xx, rfl⟩ := hv.out))
            go_ret3
            exact au_no (by rw [HF.out, HP.out, HK.out]) hv.out rfl ((((hf2.trans hf3).drewN _).trans hf5).trans hf7)
          | some y =>
            have CE := Lib.hid (uns16 q (by omega) _ he)
            rw [he] at HK
            clear he
            go_enter Tryz.func58, Tryz.ntmps58
            go_wp2_with (first
              | (go_at_call 70; (with_reducible refine (C1.out _).mono ?_); rintro e w1 ⟨rfl, rfl⟩)
              | (go_at_call 71; (with_reducible refine (CH.out _ ht).mono ?_); rintro e w2 ⟨hpp, hf2⟩; have hpq := auS _ _ HP.out hpp; subst hpq)
              | (go_at_call 72; (with_reducible refine (CV.out _).mono ?_); rintro e w3 ⟨rfl, hf3⟩)
              | (go_at_call 48; (with_reducible refine (CC.out _).mono ?_); rintro e w4 ⟨rfl, rfl⟩)
              | (go_at_call 32; (with_reducible refine (CT.out _).mono ?_); rintro e w4 ⟨rfl, n4, rfl⟩)
              | (go_at_call 60; (with_reducible refine (CD.out _ (Lib.hid (ht.out.fr ((hf2.trans hf3).drewN _)))).mono ?_); rintro e w5 ⟨hppw5, hf5⟩; have hpqw5 := auS _ _ rfl hppw5; subst hpqw5)
              | (go_at_call 60; (with_reducible refine (CE.out _ (Lib.hid (ht.out.fr (((hf2.trans hf3).drewN _).trans hf5)))).mono ?_); rintro e w7 ⟨hppw7, hf7⟩; have hpqw7 := auS _ _ rfl hppw7; subst hpqw7)
              | (go_at_call 39; refine (userPw_any _ _ _).mono ?_; rintro e w6 ⟨⟨gu, rfl, hbu⟩, hf6⟩; replace hbu := Lib.hid hbu))
            go_ret3
            exact au_yes (us := some (x, y, true)) (by rw [HF.out, HP.out, HK.out]) rfl rfl ⟨gu, rfl, hbu.out⟩ (((((hf2.trans hf3).drewN _).trans hf5).trans hf7).trans hf6)
end Go.Proofs.YtibcegbacnjmfaaGreatDoor
