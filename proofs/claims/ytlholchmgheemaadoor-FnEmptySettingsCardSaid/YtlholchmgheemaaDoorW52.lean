import Derived.Test.YtlholchmgheemaaDoorW51
import Derived.Test.YtlholchmgheemaaDoorW37
import Derived.Test.YtlholchmgheemaaDoorW24
namespace Go.Proofs.YtlholchmgheemaaDoor
set_option linter.unusedVariables false
set_option linter.unusedSimpArgs false
open Go.RowKit Go.Maps

theorem errNewQ (s : ByteArray) (w : World) :
    Calls Tryd.prog 43 #[.string s] w fun e w' => (∃ t x, e = .returned (.iface t x)) ∧ Fr w w' := by
  go_enter Tryd.func43, Tryd.ntmps43
  go_wp2
  go_ret
  exact ⟨⟨_, _, rfl⟩, (Fr.refl _).alloc _⟩
theorem within_any (n : Nat) (w : World) :
    Calls Tryd.prog 41 #[.int .i64 (n : Int)] w fun e w' => e = .returned (.bool (decide (n ≤ 10000))) ∧ w = w' := by
  go_enter Tryd.func41, Tryd.ntmps41
  go_wp2
  go_ret
  exact ⟨ret_bool (by rw [Bool.eq_iff_iff]; simp; omega), rfl⟩
/-- An error's value. -/
def ErrB (v : Value) : Bool → Prop
  | true => ∃ t x, v = .iface t x
  | false => v = .nilIface
/-- What the lists at the keys are at most long. -/
def QLen (M : NU.QM) (k : Nat) : Prop := ∀ key l, NU.look key M = some l → l.length ≤ k
theorem QLen.mono {M : NU.QM} {k k' : Nat} (h : QLen M k) (hk : k ≤ k') : QLen M k' := fun key l hl => Nat.le_trans (h key l hl) hk
theorem QLen.put {M : NU.QM} {k : Nat} (h : QLen M k) (hs : NU.Srt M) (key x : List UInt8) : QLen (NU.qput key x M) (k + 1) := by
  intro key' l hl
  unfold NU.qput at hl
  rw [NU.look_upd _ _ _ _ hs] at hl
  split at hl
  · cases hl
    rw [List.length_append]
    cases ho : NU.look key M with
    | none => simp
    | some l' => have := h key l' ho; simpa using this
  · have := h key' l hl; omega
theorem QLen.get {M : NU.QM} {k : Nat} (h : QLen M k) (key : List UInt8) : ((NU.look key M).getD []).length ≤ k := by
  cases ho : NU.look key M with
  | none => simp
  | some l => exact h key l ho
section
variable {b k c cap g : Nat} {w4 w5 w6 : World} {S : SL} {M : NU.QM} {v : Value} {l : List (List UInt8)} {key x : List UInt8}
theorem gmap_ne (hG : Gmap b w4 b k S M) (hv : v = (NU.look key S).getD (.slice none 0 0)) : v.ownBlock ≠ some b := by
  cases ho : NU.look key S with
  | none => rw [ho] at hv; subst hv; simp [Value.ownBlock]
  | some z =>
    rw [ho] at hv
    have hv : v = z := hv
    subst hv; exact hG.2.2 key v ho
theorem gmap_own5 (hG : Gmap b w4 b k S M) (hv : v = (NU.look key S).getD (.slice none 0 0)) (hg5 : w4.grownBy w5 v.ownBlock) : w5.ownsMap Tryd.prog 9 Rsl b k (dmap S) :=
  hG.2.1.kept hg5 (fun e => gmap_ne hG hv e.symm)
theorem gmap_step (hG : Gmap b w4 b k S M) (hv : v = (NU.look key S).getD (.slice none 0 0)) (hl : l = (NU.look key M).getD []) (hr4 : SRow b w4 v l) (hr5 : SRow b w5 (.slice (some ⟨g, 0, none⟩) c cap) (l ++ [x])) (hg5 : w4.grownBy w5 v.ownBlock)
    (hloc : v.ownBlock = some g ∨ w4.heap.size ≤ g) (hown6 : w6.ownsMap Tryd.prog 9 Rsl b (k + 1) (dmap (NU.upd (fun _ => .slice (some ⟨g, 0, none⟩) c cap) key S))) (hg6 : w5.grownBy w6 (some b)) {w0 : World} (hB : Below b w0 w4) (hb : b ≤ w4.heap.size) :
    Gmap b w6 b (k + 1) (NU.upd (fun _ => .slice (some ⟨g, 0, none⟩) c cap) key S) (NU.qput key x M) ∧ Below b w0 w6 ∧ b ≤ w6.heap.size := by
  have h1 := hG.1.put key x (.slice (some ⟨g, 0, none⟩) c cap) hv hl hg5 hr5 rfl hloc
  have hbl : b < w4.heap.size := hG.2.1.lt
  have hne : ∀ k' u, NU.look k' (NU.upd (fun _ => Value.slice (some ⟨g, 0, none⟩) c cap) key S) = some u → u.ownBlock ≠ some b := by
    intro k' u hu
    rw [NU.look_upd _ _ _ _ hG.1.ss] at hu
    split at hu
    · cases hu
      rcases hloc with h | h
      · have := gmap_ne hG hv; rw [h] at this; exact this
      · simp [Value.ownBlock]; omega
    · exact hG.2.2 k' u hu
  have h5 : b ≤ w5.heap.size := Nat.le_trans hb hg5.size
  refine ⟨⟨h1.kept hg6 hne, hown6, hne⟩, ?_, Nat.le_trans h5 hg6.size⟩
  exact (hB.grown hg5 hb (fun j hj => (hr4.lt hj).1)).grown hg6 h5 (fun j hj => by cases hj; exact Nat.le_refl _)
end
theorem qdec_no (u : ByteArray) (hs : u.size ≤ 35184372088832) (h : NU.dec true (L u) = none) (W : World) (ht : Hid (Tab W)) :
    Calls Tryd.prog 46 #[.string u] W fun e w' => (∃ t y, e = .returned (.tuple #[.string ⟨#[]⟩, .iface t y])) ∧ Fr W w' := by
  refine (urlQueryUnescape_any u W ht.out hs).mono ?_
  rintro e w' ⟨⟨ev, rfl, hu⟩, hf⟩
  rw [h] at hu ⊢
  obtain ⟨x, rfl⟩ := hu
  exact ⟨⟨_, _, rfl⟩, hf⟩
theorem qdec_yes (u x : ByteArray) (hs : u.size ≤ 35184372088832) (h : NU.dec true (L u) = some (L x)) (W : World) (ht : Hid (Tab W)) :
    Calls Tryd.prog 46 #[.string u] W fun e w' => e = .returned (.tuple #[.string x, .nilIface]) ∧ Fr W w' := by
  refine (urlQueryUnescape_any u W ht.out hs).mono ?_
  rintro e w' ⟨⟨ev, rfl, hu⟩, hf⟩
  rw [h] at hu ⊢
  have hu : ev = .nilIface := hu
  subst hu
  exact ⟨by rw [Option.getD_some, mk_L], hf⟩
def strLen (v : Value) : Nat := match v with | .string s => s.size | _ => 0
/-- How many rounds are to come. -/
def qleft (t : List UInt8) : Nat := if t = [] then 0 else NU.cnt 38 t + 1
theorem qleft_cut {t : List UInt8} (h : t ≠ []) : qleft (NU.cutA [38] t) + 1 ≤ qleft t := by
  unfold qleft
  rw [if_neg h]
  split
  · omega
  · rename_i h2; have := NU.cnt_cut t h2; omega
theorem fsub_mem (c : UInt8) (s : List UInt8) : decide (0 ≤ NU.fsub [c] s) = NU.mem s c := by
  rw [NU.mem_index, Bool.eq_iff_iff, decide_eq_true_eq, decide_eq_true_eq]; exact (NU.cut_index c s).2.2
theorem qset_semi {one : List UInt8} (h : NU.mem one 59 = true) (M : NU.QM) (er : Bool) : NU.qstep one (M, er) = (M, true) := by
  unfold NU.qstep NU.setting
  rw [if_pos h, if_neg (by rintro rfl; cases h)]
theorem qset_empty (M : NU.QM) (er : Bool) : NU.qstep [] (M, er) = (M, er) := by unfold NU.qstep; rw [if_pos rfl]
theorem qset_bad {one : List UInt8} (h0 : one ≠ []) (h : NU.mem one 59 = false) (hd : NU.dec true (NU.cutB [61] one) = none ∨ NU.dec true (NU.cutA [61] one) = none) (M : NU.QM) (er : Bool) : NU.qstep one (M, er) = (M, true) := by
  unfold NU.qstep NU.setting
  rw [if_neg h0, if_neg (by simp [h])]
  rcases hd with hd | hd
  · rw [hd]
  · rw [hd]; cases NU.dec true (NU.cutB [61] one) <;> rfl
theorem qset_good {one k x : List UInt8} (h0 : one ≠ []) (h : NU.mem one 59 = false) (hd : NU.dec true (NU.cutB [61] one) = some k) (hd' : NU.dec true (NU.cutA [61] one) = some x) (M : NU.QM) (er : Bool) : NU.qstep one (M, er) = (NU.qput k x M, er) := by
  unfold NU.qstep NU.setting
  rw [if_neg h0, if_neg (by simp [h]), hd, hd']
theorem tab_below {b : Nat} {w w' : World} (h : Tab w) (hb : Below b w w') (hlt : 0 < b) : Tab w' :=
  ⟨Nat.lt_of_lt_of_le h.lt hb.size, fun c => (Below.cell hb (p := ⟨_, _, none⟩) hlt).trans (h.cell c)⟩

def QPost (b : Nat) (w : World) (o : NU.QM × Bool) (e : Ending) (w' : World) : Prop :=
  ∃ ev n S, e = .returned ev ∧ ErrB ev o.2 ∧ n ≤ 10001 ∧ Gmap b w' b n S o.1 ∧ QLen o.1 n ∧ Below b w w'
set_option maxRecDepth 100000 in
set_option maxHeartbeats 16000000 in
theorem parseQuery_any (b : Nat) (s : ByteArray) (hs : s.size ≤ 35184372088832) (w : World) (hG : Hid (Gmap b w b 0 [] [])) (ht : Hid (Tab w)) (htb : 0 < b) :
    Calls Tryd.prog 30 #[.map (some b), .string s] w fun e w' => QPost b w (NU.qparse (L s)) e w' := by
  have CC := Lib.hid (zzCount1_any s 38 (by omega))
  have CW := Lib.hid within_any
  have CN := Lib.hid errNewQ
  have hcle := NU.cnt_le 38 (L s)
  rw [L_length] at hcle
  by_cases hmax : NU.cnt 38 (L s) + 1 ≤ 10000
  case neg =>
    have HF : Hid (NU.qparse (L s) = ([], true)) := by show _ = _; rw [NU.qparse, if_pos (by omega)]
    obtain ⟨c, hc⟩ : ∃ c, c = NU.cnt 38 (L s) := ⟨_, rfl⟩
    rw [← hc] at CC hmax hcle
    have hd : decide (c + 1 ≤ 10000) = false := by simpa using hmax
    have CW' : Hid (∀ W, Calls Tryd.prog 41 #[.int .i64 ((c : Int) + 1)] W fun e w' => e = .returned (.bool false) ∧ W = w') := by
      show ∀ W, _
      intro W
      have := CW.out (c + 1) W
      rw [hd] at this
      simpa using this
    clear hc hmax hd CW
    go_enter Tryd.func30, Tryd.ntmps30
    go_wp2_with (first
      | (go_at_call 42; (with_reducible refine (CC.out _).mono ?_); rintro e w1 ⟨rfl, rfl⟩)
      | (go_at_call 41; (with_reducible refine (CW'.out _).mono ?_); rintro e w1 ⟨rfl, rfl⟩)
      | (go_at_call 43; (with_reducible refine (CN.out _ _).mono ?_); rintro e w1 ⟨⟨tt, xx, rfl⟩, hf1⟩))
    go_ret
    rw [HF.out]
    exact ⟨_, 0, [], rfl, ⟨_, _, rfl⟩, by omega, hG.out.fr hf1, (fun _ _ h => (by cases h)), Below.mono hf1 (Nat.le_of_lt hG.out.2.1.lt)⟩
  case pos =>
    have HF : Hid (NU.qparse (L s) = NU.qrun (L s) ([], false)) := by show _ = _; rw [NU.qparse, if_neg (by omega)]
    have hql : qleft (L s) ≤ 10000 := by unfold qleft; split <;> omega
    obtain ⟨c, hc⟩ : ∃ c, c = NU.cnt 38 (L s) := ⟨_, rfl⟩
    rw [← hc] at CC hmax hcle
    have hd : decide (c + 1 ≤ 10000) = true := by simpa using hmax
    have CW' : Hid (∀ W, Calls Tryd.prog 41 #[.int .i64 ((c : Int) + 1)] W fun e w' => e = .returned (.bool true) ∧ W = w') := by
      show ∀ W, _
      intro W
      have := CW.out (c + 1) W
      rw [hd] at this
      simpa using this
    have HQ := Lib.hid hql
    clear hc hmax hd CW hql
    go_enter Tryd.func30, Tryd.ntmps30
    go_wp2_with (first
      | (go_at_call 42; (with_reducible refine (CC.out _).mono ?_); rintro e w1 ⟨rfl, rfl⟩)
      | (go_at_call 41; (with_reducible refine (CW'.out _).mono ?_); rintro e w1 ⟨rfl, rfl⟩))
    go_loopw [1, 4] (fun q e wr => ∃ (t : ByteArray) (S : SL) (M : NU.QM) (er : Bool) (k : Nat), q = .string t ∧ Hid (ErrB e er) ∧ t.size ≤ s.size ∧ Hid (k + qleft (L t) ≤ 10000) ∧ k ≤ 10000 ∧ Hid (Below b w wr) ∧ Hid (Gmap b wr b k S M) ∧ Hid (QLen M k) ∧ Hid (NU.qrun (L s) ([], false) = NU.qrun (L t) (M, er))) (fun q _ _ => strLen q)
    case atStart => exact ⟨s, [], [], false, 0, rfl, rfl, Nat.le_refl _, by show _ ≤ _; rw [Nat.zero_add]; exact HQ.out, by omega, Below.refl _ _, hG, (fun _ _ h => (by cases h)), rfl⟩
    case round =>
      obtain ⟨t, S, M, er, k, rfl, HE, hts, HK, hk, HB, HG, HL, HS⟩ := hrel
      by_cases h0 : L t = []
      · have q0 := L_empty h0
        have HR : Hid (NU.qrun (L s) ([], false) = (M, er)) := by show _ = _; rw [HS.out, h0, NU.qrun_nil]
        clear h0
        go_wp2
        go_ret
        rw [HF.out, HR.out]
        exact ⟨_, k, S, rfl, HE.out, by omega, HG.out, HL.out, HB.out⟩
      · have q0 := L_nempty h0
        obtain ⟨one, hone⟩ : ∃ one, one = mk (NU.cutB [38] (L t)) := ⟨_, rfl⟩
        obtain ⟨rest, hrest⟩ : ∃ rest, rest = mk (NU.cutA [38] (L t)) := ⟨_, rfl⟩
        have h1l : L one = NU.cutB [38] (L t) := by rw [hone, L_mk]
        have hrl : L rest = NU.cutA [38] (L t) := by rw [hrest, L_mk]
        have HQ1 : Hid (NU.qrun (L t) (M, er) = NU.qrun (L rest) (NU.qstep (L one) (M, er))) := by show _ = _; rw [NU.qrun_cons h0, h1l, hrl]
        have hz1 : one.size ≤ t.size := by have := NU.cutB_len [38] (L t); rw [← h1l, L_length, L_length] at this; exact this
        have hz2 : rest.size < t.size := by have := NU.cutA_lt (c := 38) h0; rw [← hrl, L_length, L_length] at this; exact this
        have HK1 : Hid (k + 1 + qleft (L rest) ≤ 10000) := by
          show _ ≤ _; have h1 := qleft_cut h0; have h2 := HK.out; rw [hrl]; omega
        have CZ := Lib.hid (fun W => zzCut_any t ⟨#[38]⟩ W (by omega) (by show (1 : Nat) ≤ 35184372088832; omega))
        rw [show L ⟨#[38]⟩ = [38] from rfl, ← hone, ← hrest] at CZ
        have CO := Lib.hid (zzContains_any one ⟨#[59]⟩ (by omega) (by show (1 : Nat) ≤ 35184372088832; omega))
        rw [show L ⟨#[59]⟩ = [59] from rfl, fsub_mem] at CO
        have hbl : b ≤ wr.heap.size := Nat.le_of_lt HG.out.2.1.lt
        clear hone hrest h1l hrl h0 HQ
        cases hsm : NU.mem (L one) 59
        case true =>
          have HR : Hid (NU.qrun (L s) ([], false) = NU.qrun (L rest) (M, true)) := by show _ = _; rw [HS.out, HQ1.out, qset_semi hsm]
          rw [hsm] at CO
          clear hsm
          go_wp2_with (first
            | (go_at_call 44; (with_reducible refine (CZ.out _).mono ?_); rintro e1 w1 ⟨rfl, n1, rfl⟩)
            | (go_at_call 45; (with_reducible refine (CO.out _).mono ?_); rintro e1 w1 ⟨rfl, rfl⟩)
            | (go_at_call 43; (with_reducible refine (CN.out _ _).mono ?_); rintro e1 w1 ⟨⟨tt, xx, rfl⟩, hf1⟩))
          go_roundw
          case rel =>
            have hfr := ((Fr.refl wr).drewN n1).trans hf1
            exact ⟨rest, S, M, true, k, rfl, ⟨_, _, rfl⟩, by omega, by show _ ≤ _; have := HK1.out; omega, hk, Below.trans HB.out (Below.mono hfr hbl), HG.out.fr hfr, HL, HR⟩
          case measure => first | exact hz2 | (simp only [strLen]; omega) | (simp [strLen]; omega)
        case false =>
          rw [hsm] at CO
          by_cases h1 : L one = []
          · have q1 := L_empty h1
            have HR : Hid (NU.qrun (L s) ([], false) = NU.qrun (L rest) (M, er)) := by show _ = _; rw [HS.out, HQ1.out, h1, qset_empty]
            clear h1 hsm
            go_wp2_with (first
              | (go_at_call 44; (with_reducible refine (CZ.out _).mono ?_); rintro e1 w1 ⟨rfl, n1, rfl⟩)
              | (go_at_call 45; (with_reducible refine (CO.out _).mono ?_); rintro e1 w1 ⟨rfl, rfl⟩))
            go_roundw
            case rel =>
              have hfr := (Fr.refl wr).drewN n1
              exact ⟨rest, S, M, er, k, rfl, HE, by omega, by show _ ≤ _; have := HK1.out; omega, hk, Below.trans HB.out (Below.mono hfr hbl), HG.out.fr hfr, HL, HR⟩
            case measure => first | exact hz2 | (simp only [strLen]; omega) | (simp [strLen]; omega)
          · have q1 := L_nempty h1
            obtain ⟨kb, hkb⟩ : ∃ kb, kb = mk (NU.cutB [61] (L one)) := ⟨_, rfl⟩
            obtain ⟨vb, hvb⟩ : ∃ vb, vb = mk (NU.cutA [61] (L one)) := ⟨_, rfl⟩
            have hkl : NU.cutB [61] (L one) = L kb := by rw [hkb, L_mk]
            have hvl : NU.cutA [61] (L one) = L vb := by rw [hvb, L_mk]
            have hz3 : kb.size ≤ s.size := by have := NU.cutB_len [61] (L one); rw [hkl, L_length, L_length] at this; omega
            have hz4 : vb.size ≤ s.size := by have := NU.cutA_len [61] (L one); rw [hvl, L_length, L_length] at this; omega
            have CE := Lib.hid (fun W => zzCut_any one ⟨#[61]⟩ W (by omega) (by show (1 : Nat) ≤ 35184372088832; omega))
            rw [show L ⟨#[61]⟩ = [61] from rfl, ← hkb, ← hvb] at CE
            have HBad : Hid (NU.dec true (L kb) = none ∨ NU.dec true (L vb) = none → NU.qrun (L s) ([], false) = NU.qrun (L rest) (M, true)) := by
              show _ → _; intro hd; rw [HS.out, HQ1.out, qset_bad h1 hsm (by rw [hkl, hvl]; exact hd)]
            have HGood : Hid (∀ x y, NU.dec true (L kb) = some x → NU.dec true (L vb) = some y → NU.qrun (L s) ([], false) = NU.qrun (L rest) (NU.qput x y M, er)) := by
              show ∀ x y, _ → _ → _; intro x y hx hy; rw [HS.out, HQ1.out, qset_good h1 hsm (by rw [hkl]; exact hx) (by rw [hvl]; exact hy)]
            clear hkb hvb hkl hvl h1 hsm HQ1 HS
            cases hdk : NU.dec true (L kb) with
            | none =>
              have CK := Lib.hid (qdec_no kb (by omega) hdk)
              have HR := Lib.hid (HBad.out (.inl hdk))
              clear hdk HBad HGood
              cases er
              · have HE0 : u4 = .nilIface := HE.out
                subst HE0
                go_wp2_with (first
                  | (go_at_call 44; (with_reducible refine (CZ.out _).mono ?_); rintro e1 w1 ⟨rfl, n1, rfl⟩)
                  | (go_at_call 45; (with_reducible refine (CO.out _).mono ?_); rintro e1 w1 ⟨rfl, rfl⟩)
                  | (go_at_call 44; (with_reducible refine (CE.out _).mono ?_); rintro e1 w1 ⟨rfl, n2, rfl⟩)
                  | (go_at_call 46; (with_reducible refine (CK.out _ (Lib.hid ((tab_below ht.out HB.out htb).fr ((Fr.refl wr).drewN _)))).mono ?_); rintro e1 w1 ⟨⟨tt, xx, rfl⟩, hf1⟩))
                go_roundw
                case rel =>
                  have hfr := ((Fr.refl wr).drewN _).trans hf1
                  exact ⟨rest, S, M, true, k, rfl, ⟨_, _, rfl⟩, by omega, by show _ ≤ _; have := HK1.out; omega, hk, Below.trans HB.out (Below.mono hfr hbl), HG.out.fr hfr, HL, HR⟩
                case measure => first | exact hz2 | (simp only [strLen]; omega) | (simp [strLen]; omega)
              · obtain ⟨t0, x0, rfl⟩ := HE.out
                go_wp2_with (first
                  | (go_at_call 44; (with_reducible refine (CZ.out _).mono ?_); rintro e1 w1 ⟨rfl, n1, rfl⟩)
                  | (go_at_call 45; (with_reducible refine (CO.out _).mono ?_); rintro e1 w1 ⟨rfl, rfl⟩)
                  | (go_at_call 44; (with_reducible refine (CE.out _).mono ?_); rintro e1 w1 ⟨rfl, n2, rfl⟩)
                  | (go_at_call 46; (with_reducible refine (CK.out _ (Lib.hid ((tab_below ht.out HB.out htb).fr ((Fr.refl wr).drewN _)))).mono ?_); rintro e1 w1 ⟨⟨tt, xx, rfl⟩, hf1⟩))
                go_roundw
                case rel =>
                  have hfr := ((Fr.refl wr).drewN _).trans hf1
                  exact ⟨rest, S, M, true, k, rfl, HE, by omega, by show _ ≤ _; have := HK1.out; omega, hk, Below.trans HB.out (Below.mono hfr hbl), HG.out.fr hfr, HL, HR⟩
                case measure => first | exact hz2 | (simp only [strLen]; omega) | (simp [strLen]; omega)
            | some x =>
              obtain ⟨kx, hkx⟩ : ∃ kx, kx = mk x := ⟨_, rfl⟩
              have hxl : x = L kx := by rw [hkx, L_mk]
              subst hxl
              clear hkx
              have hz5 : kx.size ≤ s.size := by have := NU.dec_len true _ _ _ (Nat.le_refl _) hdk; rw [L_length, L_length] at this; omega
              have CK := Lib.hid (qdec_yes kb kx (by omega) hdk)
              cases hdv : NU.dec true (L vb) with
              | none =>
                have CV := Lib.hid (qdec_no vb (by omega) hdv)
                have HR := Lib.hid (HBad.out (.inr hdv))
                clear hdk hdv HBad HGood
                cases er
                · have HE0 : u4 = .nilIface := HE.out
                  subst HE0
                  go_wp2_with (first
                    | (go_at_call 44; (with_reducible refine (CZ.out _).mono ?_); rintro e1 w1 ⟨rfl, n1, rfl⟩)
                    | (go_at_call 45; (with_reducible refine (CO.out _).mono ?_); rintro e1 w1 ⟨rfl, rfl⟩)
                    | (go_at_call 44; (with_reducible refine (CE.out _).mono ?_); rintro e1 w1 ⟨rfl, n2, rfl⟩)
                    | (go_at_call 46; (with_reducible refine (CK.out _ (Lib.hid ((tab_below ht.out HB.out htb).fr ((Fr.refl wr).drewN _)))).mono ?_); rintro e1 w1 ⟨rfl, hf1⟩; have hfr1 := Lib.hid (((Fr.refl wr).drewN _).trans hf1); have htt1 := Lib.hid ((tab_below ht.out HB.out htb).fr hfr1.out))
                    | (go_at_call 46; (with_reducible refine (CV.out _ htt1).mono ?_); rintro e1 w2 ⟨⟨tt, xx, rfl⟩, hf2⟩))
                  go_roundw
                  case rel =>
                    have hfr := hfr1.out.trans hf2
                    exact ⟨rest, S, M, true, k, rfl, ⟨_, _, rfl⟩, by omega, by show _ ≤ _; have := HK1.out; omega, hk, Below.trans HB.out (Below.mono hfr hbl), HG.out.fr hfr, HL, HR⟩
                  case measure => first | exact hz2 | (simp only [strLen]; omega) | (simp [strLen]; omega)
                · obtain ⟨t0, x0, rfl⟩ := HE.out
                  go_wp2_with (first
                    | (go_at_call 44; (with_reducible refine (CZ.out _).mono ?_); rintro e1 w1 ⟨rfl, n1, rfl⟩)
                    | (go_at_call 45; (with_reducible refine (CO.out _).mono ?_); rintro e1 w1 ⟨rfl, rfl⟩)
                    | (go_at_call 44; (with_reducible refine (CE.out _).mono ?_); rintro e1 w1 ⟨rfl, n2, rfl⟩)
                    | (go_at_call 46; (with_reducible refine (CK.out _ (Lib.hid ((tab_below ht.out HB.out htb).fr ((Fr.refl wr).drewN _)))).mono ?_); rintro e1 w1 ⟨rfl, hf1⟩; have hfr1 := Lib.hid (((Fr.refl wr).drewN _).trans hf1); have htt1 := Lib.hid ((tab_below ht.out HB.out htb).fr hfr1.out))
                    | (go_at_call 46; (with_reducible refine (CV.out _ htt1).mono ?_); rintro e1 w2 ⟨⟨tt, xx, rfl⟩, hf2⟩))
                  go_roundw
                  case rel =>
                    have hfr := hfr1.out.trans hf2
                    exact ⟨rest, S, M, true, k, rfl, HE, by omega, by show _ ≤ _; have := HK1.out; omega, hk, Below.trans HB.out (Below.mono hfr hbl), HG.out.fr hfr, HL, HR⟩
                  case measure => first | exact hz2 | (simp only [strLen]; omega) | (simp [strLen]; omega)
              | some y =>
                obtain ⟨vx, hvx⟩ : ∃ vx, vx = mk y := ⟨_, rfl⟩
                have hyl : y = L vx := by rw [hvx, L_mk]
                subst hyl
                clear hvx
                have CV := Lib.hid (qdec_yes vb vx (by omega) hdv)
                have HR := Lib.hid (HGood.out _ _ hdk hdv)
                clear hdk hdv HBad HGood
                go_wp2_with (first
                  | (go_at_call 44; (with_reducible refine (CZ.out _).mono ?_); rintro e1 w1 ⟨rfl, n1, rfl⟩)
                  | (go_at_call 45; (with_reducible refine (CO.out _).mono ?_); rintro e1 w1 ⟨rfl, rfl⟩)
                  | (go_at_call 44; (with_reducible refine (CE.out _).mono ?_); rintro e1 w1 ⟨rfl, n2, rfl⟩)
                  | (go_at_call 46; (with_reducible refine (CK.out _ (Lib.hid ((tab_below ht.out HB.out htb).fr ((Fr.refl wr).drewN _)))).mono ?_); rintro e1 w1 ⟨rfl, hf1⟩; have hfr1 := Lib.hid (((Fr.refl wr).drewN _).trans hf1); have htt1 := Lib.hid ((tab_below ht.out HB.out htb).fr hfr1.out))
                  | (go_at_call 46; (with_reducible refine (CV.out _ htt1).mono ?_); rintro e1 w2 ⟨rfl, hf2⟩; have hfr2 := Lib.hid (hfr1.out.trans hf2); have HG2 := Lib.hid (HG.out.fr hfr2.out); have hbl2 : b ≤ w2.heap.size := Nat.le_trans hbl hfr2.out.size)
                  | (at_lookup; refine wpList_look_g rfl _ _ rfl b b k S M rfl HG2 kx rfl (by omega) ?_; intro v l hv hl hr4; replace hv := Lib.hid hv; replace hl := Lib.hid hl)
                  | (at_builtin; refine wpList_spush rfl _ _ rfl b v l vx w2 hbl2 (by rw [hl.out]; have := HL.out.get (L kx); omega) rfl hr4 rfl ?_; intro g cap w5 hr5 hg5 hloc; replace hr5 := Lib.hid hr5; replace hg5 := Lib.hid hg5; replace hloc := Lib.hid hloc)
                  | (at_mapUpdate; refine wpList_put_g rfl _ _ _ rfl b k S rfl (gmap_own5 HG2.out hv.out hg5.out) HG2.out.1.ss (by omega) kx rfl (by omega) g _ cap rfl ?_; intro w6 hown6 hg6; replace hown6 := Lib.hid hown6; replace hg6 := Lib.hid hg6)
                  | fail)
                try go_frame
                go_roundw
                case rel =>
                  have hfin := gmap_step HG2.out hv.out hl.out hr4.out hr5.out hg5.out hloc.out hown6.out hg6.out (Below.trans HB.out (Below.mono hfr2.out hbl)) hbl2
                  exact ⟨rest, _, _, er, k + 1, rfl, HE, by omega, HK1, by have := HK1.out; omega, hfin.2.1, hfin.1, HL.out.put HG.out.1.sm _ _, HR⟩
                case measure => first | exact hz2 | (simp only [strLen]; omega) | (simp [strLen]; omega)
end Go.Proofs.YtlholchmgheemaaDoor
