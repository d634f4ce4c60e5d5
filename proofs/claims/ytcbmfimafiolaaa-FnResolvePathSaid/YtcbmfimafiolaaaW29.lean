import Derived.Test.YtcbmfimafiolaaaW28
import Derived.Deep.DeepCutAuto
import Derived.Laws.MakeOwn
import Derived.Lib.Hide
namespace Go.Proofs.Ytcbmfimafiolaaa
set_option linter.unusedVariables false
set_option linter.unusedSimpArgs false
open Go.RowKit

theorem wpList_pushC {ops : Array Oper} {rest : List Oper} {o : Oper} {a : Act} {Q : Exit → Act → World → Prop} (hgd : o.guard = none) (s x : Operand)
    (ho : o.op = .call { callee := .builtin .append, args := #[s, x], argTypes := #[57, 57] })
    (w0 : World) (v : Value) (l : List UInt8) (c : UInt8) (w : World) (ci : Int) (hci : ci = (c.toNat : Int)) (hf : Fr w0 w) (hl : l.length ≤ 70368744177664) (hs : a.eval s = v) (h : Hid (Row w0.heap.size w v l))
    (hx : a.eval x = .slice (some ⟨w.heap.size, 0, none⟩) 1 1)
    (hk : ∀ v' w', Fr w0 w' → Hid (Row w0.heap.size w' v' (l ++ [c])) → wpList Try.prog ops Q rest (a.put o.dst v') w') :
    wpList Try.prog ops Q (o :: rest) a (w.alloc (.cells #[.int .u8 ci] 5)) := by
  subst hci
  exact wpList_pushH hgd s x ho w0 v l c w hf hl hs h hx hk
theorem wpList_pushS {ops : Array Oper} {rest : List Oper} {o : Oper} {a : Act} {Q : Exit → Act → World → Prop} (hgd : o.guard = none) (s x : Operand)
    (ho : o.op = .call { callee := .builtin .append, args := #[s, x], argTypes := #[57, 9] })
    (w0 : World) (v : Value) (l : List UInt8) (t : ByteArray) (w : World) (hf : Fr w0 w) (hl : l.length ≤ 35184372088832) (ht : t.size ≤ 35184372088832) (hs : a.eval s = v) (h : Hid (Row w0.heap.size w v l))
    (hx : a.eval x = .string t)
    (hk : ∀ v' w', Fr w0 w' → Hid (Row w0.heap.size w' v' (l ++ L t)) → wpList Try.prog ops Q rest (a.put o.dst v') w') :
    wpList Try.prog ops Q (o :: rest) a w := by
  obtain ⟨i0, hi, hz0, hz1, hz2⟩ := info_parts infoU8
  refine Lib.wpList_append_own_string _ hgd s x 57 9 ho w0.heap.size 5 i0 Try.underlying57 Try.underlying9 hi hz0 hz1 hz2 v l.length (Lib.byteCells l) hs h.out t hx (by unfold maxLen; omega) (by omega) hf.size ?_
  intro v' w' hown' hgrow _
  refine hk v' w' ?_ (Lib.hid ?_)
  · exact Below.grown hf hgrow hf.size (fun k hk => (World.ownsRow.lt h.out k hk).1)
  · show w'.ownsRow w0.heap.size 5 1 v' (l ++ L t).length (Lib.byteCells (l ++ L t))
    have e : Lib.byteCells (l ++ L t) = Lib.byteCells l ++ Lib.strCells t := by simp [Lib.byteCells, Lib.strCells]
    rw [e, List.length_append, L_length]
    exact hown'
theorem row_some {B : Nat} {w : World} {v : Value} {l : List UInt8} (h : Row B w v l) (h0 : l ≠ []) :
    ∃ g cap, v = .slice (some ⟨g, 0, none⟩) l.length cap ∧ l.length ≤ cap ∧ cap ≤ maxLen ∧ (∀ (j : Nat) (hj : j < l.length), w.cell? ⟨g, j, none⟩ = some (.int .u8 (l[j].toNat : Int))) ∧
      ∀ n, n ≤ l.length → Row B w (.slice (some ⟨g, 0, none⟩) n cap) (l.take n) := by
  rcases h.2 with ⟨rfl, h1⟩ | ⟨g, cap, cur, rfl, hg, hb, hn, hc, hs, ht⟩
  · exact absurd (List.eq_nil_of_length_eq_zero h1) h0
  · refine ⟨g, cap, rfl, hn, hc, ?_, ?_⟩
    · intro j hj
      have hj2 : j < cur.size := by omega
      have e1 : (Lib.byteCells l)[j]? = some (.int .u8 (l[j].toNat : Int)) := by simp [Lib.byteCells, List.getElem?_eq_getElem hj]
      rw [← ht] at e1
      have e2 : cur[j]? = some (.int .u8 (l[j].toNat : Int)) := by
        rw [List.getElem?_take] at e1
        split at e1
        · simpa using e1
        · cases e1
      simp [World.cell?, hb, e2]
    · intro n hn'
      have hlen : (l.take n).length = n := by rw [List.length_take]; omega
      refine ⟨by simp [Lib.byteCells], .inr ⟨g, cap, cur, by rw [hlen], hg, hb, by rw [hlen]; omega, hc, hs, ?_⟩⟩
      have e : Lib.byteCells (l.take n) = (Lib.byteCells l).take n := by simp [Lib.byteCells, List.map_take]
      rw [e, ← ht, hlen, List.take_take]
      congr 1; omega
theorem tail_conv (g off n cap : Nat) (l : List UInt8) (hn : n = l.length) (w : World) (hc : ∀ (j : Nat) (h : j < l.length), w.cell? ⟨g, off + j, none⟩ = some (.int .u8 (l[j].toNat : Int))) :
    (convert 57 9 (.slice (some ⟨g, off, none⟩) n cap)).run Try.prog w = .ok (.string (mk l)) w := by
  subst hn
  refine run_convert_bytes_back w _ _ _ ⟨g, off, none⟩ _ _ Try.underlying57 Try.underlying5 Try.underlying9 ?_
  intro j hj
  have := hc j hj
  by_cases h0 : j = 0
  · subst h0; simpa [Addr.add] using this
  · simpa [Addr.add, h0] using this

theorem push_end {B : Nat} {w : World} {v : Value} {D : List UInt8} (h : Hid (Row B w v D)) (m : Nat) (hm : D.length = m + 1) (h1 : 1 ≤ m) (x : UInt8) (hx : D[1]? = some x) :
    ∃ g cap, v = .slice (some ⟨g, 0, none⟩) (m + 1) cap ∧ m + 1 ≤ cap ∧ ¬ cap = 1 ∧ w.cell? ⟨g, 1, none⟩ = some (.int .u8 (x.toNat : Int)) ∧
      (convert 57 9 (.slice (some ⟨g, 1, none⟩) m (cap - 1))).run Try.prog w = .ok (.string (mk (D.drop 1))) w ∧ (convert 57 9 (.slice (some ⟨g, 0, none⟩) (m + 1) cap)).run Try.prog w = .ok (.string (mk D)) w := by
  obtain ⟨g, cap, rfl, hc1, hc2, hcel, _⟩ := row_some h.out (by intro e; rw [e] at hm; simp at hm)
  refine ⟨g, cap, by rw [hm], by omega, by omega, ?_, ?_, ?_⟩
  · rw [hcel 1 (by omega)]
    rw [List.getElem?_eq_getElem (by omega)] at hx
    rw [Option.some.inj hx]
  · refine tail_conv g 1 m (cap - 1) (D.drop 1) (by rw [List.length_drop, hm]; rfl) w ?_
    intro j hj
    rw [List.length_drop] at hj
    rw [hcel (1 + j) (by omega), List.getElem_drop]
  · refine tail_conv g 0 (m + 1) cap D hm.symm w ?_
    intro j hj
    rw [Nat.zero_add]; exact hcel j hj

/-- One piece more of the package's way. -/
theorem rp_next {R : List UInt8} {r : ByteArray} {d : List UInt8} {fi : Bool} (HS : Hid (R = NU.rpRun (NU.segs (L r)) d fi)) :
    Hid (if NU.cutF [47] (L r) = true then R = NU.rpRun (NU.segs (NU.cutA [47] (L r))) (NU.rpStep d fi (NU.cutB [47] (L r))).1 (NU.rpStep d fi (NU.cutB [47] (L r))).2
      else R = if NU.dots (NU.cutB [47] (L r)) then (NU.rpStep d fi (NU.cutB [47] (L r))).1 ++ [47] else (NU.rpStep d fi (NU.cutB [47] (L r))).1) ∧
    (NU.cutF [47] (L r) = true → (NU.cutB [47] (L r)).length + (NU.cutA [47] (L r)).length + 1 ≤ r.size) ∧ (NU.cutF [47] (L r) = false → (NU.cutB [47] (L r)).length ≤ r.size ∧ NU.cutA [47] (L r) = []) := by
  have hl := L_length r
  have HS' := HS.out
  rcases NU.segs_part (L r) with ⟨h, hs⟩ | ⟨a, x, h, he, hs⟩
  · have hc := NU.cut_noSl _ h
    have hA : NU.cutA [47] (L r) = [] := by unfold NU.cutA; rw [NU.fsub_noSl _ h]; rfl
    rw [hc.1, hc.2, hA]
    refine ⟨?_, (fun h => by cases h), fun _ => ⟨by omega, rfl⟩⟩
    show ite _ _ _
    rw [if_neg (by simp), HS', hs, NU.rpRun_one]
  · rw [he] at HS' hl ⊢
    have hc := NU.cut_app a x h
    rw [hc.1, hc.2.1, hc.2.2]
    simp only [List.length_append, List.length_cons] at hl
    refine ⟨?_, fun _ => by omega, fun h => by cases h⟩
    show ite _ _ _
    rw [if_pos rfl, HS', NU.segs_app a x h, NU.rpRun_cons _ _ _ _ (NU.segs_ne x)]

theorem fin_short {D : List UInt8} (h : D.length = 1) : NU.rpFin D = D := by
  match D, h with
  | [a], _ => rfl
theorem fin_yes {D : List UInt8} (h : 1 < D.length) (hx : D[1] = 47) : NU.rpFin D = D.drop 1 := by
  match D, h, hx with
  | a :: b :: r, _, hx => simp at hx; simp [NU.rpFin, hx]
theorem fin_no {D : List UInt8} (h : 1 < D.length) (hx : ¬ D[1] = 47) : NU.rpFin D = D := by
  match D, h, hx with
  | a :: b :: r, _, hx => simp at hx; simp [NU.rpFin, hx]
theorem u8_47 (x : UInt8) : ((x.toNat : Int) == 47) = (x == 47) := by rw [show (47 : Int) = ((47 : UInt8).toNat : Int) from rfl, u8_eq]
theorem rpFull_len (a b : List UInt8) : (NU.rpFull a b).length ≤ a.length + b.length := by
  unfold NU.rpFull
  split
  · omega
  · split
    · omega
    · simp only [List.length_append, List.length_take]; omega

set_option maxRecDepth 100000 in
set_option maxHeartbeats 4000000 in
theorem resolvePath_any (base ref : ByteArray) (w : World) (hb : base.size ≤ 274877906944) (hr : ref.size ≤ 274877906944) :
    Calls Try.prog 53 #[.string base, .string ref] w fun e w' => e = .returned (.string (mk (NU.resolvePath (L base) (L ref)))) ∧ Fr w w' := by
  have CL := Lib.hid (fun W => LastIndex1_any base 47 W (by omega))
  go_enter Try.func53, Try.ntmps53
  go_upto_if 14 with fail
  go_cut [5] (fun c wx => c = .string (mk (NU.rpFull (L base) (L ref))) ∧ w = wx)
  case first =>
    by_cases h0 : L ref = []
    · have q0 := L_empty h0
      rw [show ref.toList.isEmpty = true by rw [q0]; rfl]
      have HF : Hid (mk (NU.rpFull (L base) (L ref)) = base) := by show _ = _; rw [h0]; exact mk_L base
      clear h0
      go_wp2
      go_meet
      case rel => exact ⟨by rw [HF.out], rfl⟩
    · have q0 := L_nempty h0
      rw [q0]
      have h1 : 0 < ref.size := by rw [← L_length]; exact List.length_pos_iff.2 h0
      obtain ⟨x, hx⟩ : ∃ x, x = ref[0] := ⟨_, rfl⟩
      have HL : Hid (L ref = x :: (L ref).drop 1) := by show _ = _; rw [hx, ← drop_cons ref 0 h1]; rfl
      have hx' := hx.symm
      clear hx h0
      by_cases hc : ((x.toNat : Int) != 47) = true
      · have hlo := NU.lastIdx_lo 47 (L base)
        have hhi := NU.lastIdx_hi 47 (L base)
        rw [L_length] at hhi
        obtain ⟨i, hi⟩ : ∃ i, i = NU.lastIdx 47 (L base) := ⟨_, rfl⟩
        rw [← hi] at hlo hhi CL
        obtain ⟨k, hk⟩ : ∃ k : Nat, (k : Int) = i + 1 := ⟨(i + 1).toNat, by omega⟩
        have hk2 : k ≤ base.size := by omega
        have hx47 : ¬ x = 47 := by intro e; rw [e] at hc; revert hc; decide
        have HF : Hid (mk (NU.rpFull (L base) (L ref)) = base.extract 0 k ++ ref) := by
          show _ = _
          apply eq_L
          rw [L_mk, HL.out, NU.rpFull, if_neg hx47, ← hi, ← hk, Int.toNat_natCast, ext_to, ← HL.out]
          simp [L, mk]
        have hk' : i = (k : Int) - 1 := by omega
        clear hi hx47 hk
        subst hk'
        go_wp2_with (go_at_call 59; (with_reducible refine (CL.out _).mono ?_); rintro e w' ⟨rfl, rfl⟩)
        go_meet
        case rel => exact ⟨by rw [HF.out], rfl⟩
      · have hc : ((x.toNat : Int) != 47) = false := by simpa using hc
        have hx47 : x = 47 := by
          have : (x.toNat : Int) = 47 := by simpa using hc
          exact UInt8.toNat_inj.1 (by rw [show (47 : UInt8).toNat = 47 from rfl]; omega)
        have HF : Hid (mk (NU.rpFull (L base) (L ref)) = ref) := by
          show _ = _
          rw [HL.out, NU.rpFull, if_pos hx47, ← HL.out, mk_L]
        clear hx47
        go_wp2
        go_meet
        case rel => exact ⟨by rw [HF.out], rfl⟩
  case rest =>
  obtain ⟨rfl, rfl⟩ := hcut
  have hfz := rpFull_len (L base) (L ref)
  rw [L_length, L_length] at hfz
  obtain ⟨full, hfull⟩ : ∃ full, full = mk (NU.rpFull (L base) (L ref)) := ⟨_, rfl⟩
  have hF2 : NU.rpFull (L base) (L ref) = L full := by rw [hfull, L_mk]
  rw [hF2, L_length] at hfz
  rw [← hfull]
  have HR : Hid (NU.resolvePath (L base) (L ref) = if L full = [] then [] else NU.rpFin (NU.rpRun (NU.segs (L full)) [47] true)) := by show _ = _; rw [NU.resolvePath, hF2]
  clear hfull hF2
  by_cases h0 : L full = []
  · have q0 := L_empty h0
    have HF : Hid (NU.resolvePath (L base) (L ref) = []) := by show _ = _; rw [HR.out, if_pos h0]
    clear h0 HR
    go_wp2
    go_ret
    exact ⟨ret_str (by rw [HF.out]; rfl), Fr.refl _⟩
  · have q0 := L_nempty h0
    obtain ⟨R, hR⟩ : ∃ R, R = NU.rpRun (NU.segs (L full)) [47] true := ⟨_, rfl⟩
    have HF0 : Hid (NU.resolvePath (L base) (L ref) = NU.rpFin R) := by show _ = _; rw [HR.out, if_neg h0, hR]
    have HRR := Lib.hid hR
    clear h0 HR hR
    obtain ⟨i0, hi, hz0, hz1, hz2⟩ := info_parts infoU8
    obtain ⟨w1, hmk, hown, hgrow⟩ := run_make_own (P := Try.prog) w w.heap.size 57 5 i0 (.int .u8 0) 1 Try.underlying57 hi hz0 hz1 .i64 .i64 (full.size + 1) (by rw [hz2]; omega) (by unfold maxLen; omega) (Nat.le_refl _)
    have e1 : (((full.size + 1 : Nat)) : Int) = (full.size : Int) + 1 := by omega
    rw [e1] at hmk
    have hfr1 : Fr w w1 := Below.grown (Fr.refl w) hgrow (Nat.le_refl _) (fun k hk => by cases hk)
    have hrow1 : Hid (Row w.heap.size w1 (.slice (some ⟨w.heap.size, 0, none⟩) 0 (full.size + 1)) []) := Lib.hid hown
    clear e1 hi hz0 hz1 hz2 hown hgrow
    go_wp2_with (at_builtin; refine wpList_pushC rfl _ _ rfl w _ [] 47 _ _ rfl hfr1 (by simp) (by rfl) hrow1 (by rfl) ?_; intro v2 w2 hfr2 hrow2; simp only [List.nil_append] at hrow2)
    clear hrow1 hmk hfr1 q0
    go_loopw [7, 8, 9, 10, 11] (fun v e r fo fi wr => ∃ (d : List UInt8) (be br : ByteArray) (bo bi : Bool), e = .string be ∧ r = .string br ∧ fo = .bool bo ∧ fi = .bool bi ∧ Fr w wr ∧ Hid (Row w.heap.size wr v d) ∧ 1 ≤ d.length ∧ br.size ≤ full.size ∧ d.length + br.size ≤ full.size + 3 ∧ (bo = true → d.length + br.size ≤ full.size + 2) ∧ Hid (if bo = true then R = NU.rpRun (NU.segs (L br)) d bi else R = if NU.dots (L be) then d ++ [47] else d)) (fun _ _ r fo _ _ => (match r with | .string t => t.size | _ => 0) + (match fo with | .bool true => 1 | _ => 0))
    case atStart => exact ⟨[47], ⟨#[]⟩, full, true, true, rfl, rfl, rfl, rfl, hfr2, hrow2, by simp, by omega, by simp; omega, by simp; omega, by show ite _ _ _; rw [if_pos rfl]; exact HRR.out⟩
    case round =>
      obtain ⟨d, be, br, bo, bi, rfl, rfl, rfl, rfl, hfr, HW, hd1, hbr, hdb, hdb2, HS⟩ := hrel
      cases bo
      case false =>
        have HS' : Hid (R = if NU.dots (L be) then d ++ [47] else d) := by have := HS.out; rw [if_neg (by simp)] at this; exact this
        clear HS
        by_cases hbe : L be = [46]
        · have q1 := eq_lits be _ hbe
          have HD : Hid (NU.resolvePath (L base) (L ref) = NU.rpFin (d ++ [47])) := by
            show _ = _
            have : NU.dots (L be) = true := by simp [NU.dots, hbe]
            rw [HF0.out, HS'.out, this]; rfl
          have hl2 : 1 < (d ++ [47]).length := by simp; omega
          obtain ⟨x, hx⟩ : ∃ x, x = (d ++ [47])[1] := ⟨_, rfl⟩
          have hx47 := u8_47 x
          have HL2 : Hid ((d ++ [47]).length = d.length + 1) := by show _ = _; simp
          cases hq : (x == 47)
          case true =>
            have HG : Hid (NU.resolvePath (L base) (L ref) = (d ++ [47]).drop 1) := by
              show _ = _; rw [HD.out, fin_yes hl2 (by rw [← hx]; simpa using hq)]
            have HX : Hid ((d ++ [47])[1]? = some x) := by show _ = _; rw [hx]; exact List.getElem?_eq_getElem _
            have hq' : ((x.toNat : Int) == 47) = true := by rw [hx47, hq]
            clear HS' HD hx hx47 hq hbe
            go_wp2_with (at_builtin; refine wpList_pushC rfl _ _ rfl w _ d 47 _ _ rfl hfr (by omega) (by rfl) HW (by rfl) ?_; intro v' w' hf' hr'; obtain ⟨g, cap, rfl, hc1, hcap, cx, tc1, tc2⟩ := push_end hr' d.length HL2.out hd1 x HX.out)
            go_ret
            exact ⟨ret_str (by rw [HG.out, List.drop_one]), by assumption⟩
          case false =>
            have HG : Hid (NU.resolvePath (L base) (L ref) = d ++ [47]) := by
              show _ = _; rw [HD.out, fin_no hl2 (by rw [← hx]; simpa using hq)]
            have HX : Hid ((d ++ [47])[1]? = some x) := by show _ = _; rw [hx]; exact List.getElem?_eq_getElem _
            have hq' : ((x.toNat : Int) == 47) = false := by rw [hx47, hq]
            clear HS' HD hx hx47 hq hbe
            go_wp2_with (at_builtin; refine wpList_pushC rfl _ _ rfl w _ d 47 _ _ rfl hfr (by omega) (by rfl) HW (by rfl) ?_; intro v' w' hf' hr'; obtain ⟨g, cap, rfl, hc1, hcap, cx, tc1, tc2⟩ := push_end hr' d.length HL2.out hd1 x HX.out)
            go_ret
            exact ⟨ret_str (by rw [HG.out]), by assumption⟩
        · have q1 := ne_lits be _ hbe
          by_cases hbe2 : L be = [46, 46]
          · clear hbe
            have hbe := hbe2
            have q2 := eq_lits be _ hbe
            have HD : Hid (NU.resolvePath (L base) (L ref) = NU.rpFin (d ++ [47])) := by
              show _ = _
              have : NU.dots (L be) = true := by simp [NU.dots, hbe]
              rw [HF0.out, HS'.out, this]; rfl
            have hl2 : 1 < (d ++ [47]).length := by simp; omega
            obtain ⟨x, hx⟩ : ∃ x, x = (d ++ [47])[1] := ⟨_, rfl⟩
            have hx47 := u8_47 x
            have HL2 : Hid ((d ++ [47]).length = d.length + 1) := by show _ = _; simp
            cases hq : (x == 47)
            case true =>
              have HG : Hid (NU.resolvePath (L base) (L ref) = (d ++ [47]).drop 1) := by
                show _ = _; rw [HD.out, fin_yes hl2 (by rw [← hx]; simpa using hq)]
              have HX : Hid ((d ++ [47])[1]? = some x) := by show _ = _; rw [hx]; exact List.getElem?_eq_getElem _
              have hq' : ((x.toNat : Int) == 47) = true := by rw [hx47, hq]
              clear HS' HD hx hx47 hq hbe hbe2
              go_wp2_with (at_builtin; refine wpList_pushC rfl _ _ rfl w _ d 47 _ _ rfl hfr (by omega) (by rfl) HW (by rfl) ?_; intro v' w' hf' hr'; obtain ⟨g, cap, rfl, hc1, hcap, cx, tc1, tc2⟩ := push_end hr' d.length HL2.out hd1 x HX.out)
              go_ret
              exact ⟨ret_str (by rw [HG.out, List.drop_one]), by assumption⟩
            case false =>
              have HG : Hid (NU.resolvePath (L base) (L ref) = d ++ [47]) := by
                show _ = _; rw [HD.out, fin_no hl2 (by rw [← hx]; simpa using hq)]
              have HX : Hid ((d ++ [47])[1]? = some x) := by show _ = _; rw [hx]; exact List.getElem?_eq_getElem _
              have hq' : ((x.toNat : Int) == 47) = false := by rw [hx47, hq]
              clear HS' HD hx hx47 hq hbe hbe2
              go_wp2_with (at_builtin; refine wpList_pushC rfl _ _ rfl w _ d 47 _ _ rfl hfr (by omega) (by rfl) HW (by rfl) ?_; intro v' w' hf' hr'; obtain ⟨g, cap, rfl, hc1, hcap, cx, tc1, tc2⟩ := push_end hr' d.length HL2.out hd1 x HX.out)
              go_ret
              exact ⟨ret_str (by rw [HG.out]), by assumption⟩
          · have HD : Hid (NU.resolvePath (L base) (L ref) = NU.rpFin d) := by
              show _ = _
              have : NU.dots (L be) = false := by simp [NU.dots, hbe, hbe2]
              rw [HF0.out, HS'.out, this]; rfl
            have hd0 : d ≠ [] := by intro h; rw [h] at hd1; simp at hd1
            obtain ⟨g, cap, rfl, hcap1, hcap2, hcel, htk⟩ := row_some HW.out hd0
            have q2 := ne_lits be _ hbe2
            clear hbe hbe2 HS' htk hd0
            by_cases hl2 : 1 < d.length
            · obtain ⟨x, hx⟩ : ∃ x, x = d[1] := ⟨_, rfl⟩
              have hx47 := u8_47 x
              have cx : wr.cell? ⟨g, 1, none⟩ = some (.int .u8 (x.toNat : Int)) := by rw [hcel 1 hl2, hx]
              have hcap : ¬ cap = 1 := by omega
              cases hq : (x == 47)
              case true =>
                have HG : Hid (NU.resolvePath (L base) (L ref) = d.drop 1) := by
                  show _ = _; rw [HD.out, fin_yes hl2 (by rw [← hx]; simpa using hq)]
                have hq' : ((x.toNat : Int) == 47) = true := by rw [hx47, hq]
                have tc := tail_conv g 1 (d.length - 1) (cap - 1) (d.drop 1) (by rw [List.length_drop]) wr (by intro j hj; rw [List.length_drop] at hj; have := hcel (1 + j) (by omega); rw [this]; simp [Nat.add_comm])
                clear HD hx hx47 hq hcel
                go_wp2
                go_ret
                exact ⟨ret_str (by rw [HG.out, List.drop_one]), hfr⟩
              case false =>
                have HG : Hid (NU.resolvePath (L base) (L ref) = d) := by
                  show _ = _; rw [HD.out, fin_no hl2 (by rw [← hx]; simpa using hq)]
                have hq' : ((x.toNat : Int) == 47) = false := by rw [hx47, hq]
                have tc := tail_conv g 0 d.length cap d rfl wr (by intro j hj; rw [Nat.zero_add]; exact hcel j hj)
                clear HD hx hx47 hq hcel
                go_wp2
                go_ret
                exact ⟨ret_str (by rw [HG.out]), hfr⟩
            · have HG : Hid (NU.resolvePath (L base) (L ref) = d) := by
                show _ = _; rw [HD.out, fin_short (by omega)]
              have tc := tail_conv g 0 d.length cap d rfl wr (by intro j hj; rw [Nat.zero_add]; exact hcel j hj)
              have hl3 : (1 < d.length) = False := by simp; omega
              have hl4 : d.length ≤ 1 := by omega
              clear HD hcel hl2
              go_wp2
              go_ret
              exact ⟨ret_str (by rw [HG.out]), hfr⟩
      case true =>
        have hdb2 := hdb2 rfl
        have HS' : Hid (R = NU.rpRun (NU.segs (L br)) d bi) := by have := HS.out; rw [if_pos rfl] at this; exact this
        obtain ⟨HN, hN1, hN2⟩ := rp_next HS'
        obtain ⟨e2, he2⟩ : ∃ e2, e2 = mk (NU.cutB [47] (L br)) := ⟨_, rfl⟩
        obtain ⟨r2, hr2⟩ : ∃ r2, r2 = mk (NU.cutA [47] (L br)) := ⟨_, rfl⟩
        obtain ⟨f2, hf2⟩ : ∃ f2, f2 = NU.cutF [47] (L br) := ⟨_, rfl⟩
        have CC := Lib.hid (fun W => zzCut_any br ⟨#[47]⟩ W (by omega) (by show (1 : Nat) ≤ 1099511627776; omega))
        rw [show L ⟨#[47]⟩ = [47] from rfl, ← he2, ← hr2, ← hf2] at CC
        have ee : NU.cutB [47] (L br) = L e2 := by rw [he2, L_mk]
        have er : NU.cutA [47] (L br) = L r2 := by rw [hr2, L_mk]
        rw [ee, er, ← hf2, L_length, L_length] at hN1
        rw [ee, er, ← hf2, L_length] at hN2
        rw [ee, er, ← hf2] at HN
        have hz2 : r2.size ≤ br.size := by
          cases f2
          · have := (hN2 rfl).2; rw [← L_length r2, this]; simp
          · have := hN1 rfl; omega
        have hze : e2.size ≤ br.size := by
          cases f2
          · have := (hN2 rfl).1; omega
          · have := hN1 rfl; omega
        have hzm : (r2.size + (if f2 = true then 1 else 0)) < br.size + 1 := by
          cases f2
          · have := (hN2 rfl).2; rw [← L_length r2, this]; simp
          · have := hN1 rfl; simp; omega
        have hzd : e2.size + r2.size ≤ br.size ∧ (f2 = true → e2.size + 1 + r2.size ≤ br.size) := by
          cases f2
          · have h1 := (hN2 rfl).1; have h2 := (hN2 rfl).2; rw [← L_length r2, h2]; simp; omega
          · have := hN1 rfl; refine ⟨by omega, fun _ => by omega⟩
        obtain ⟨hzd, hzf⟩ := hzd
        have hzf := Lib.hid hzf
        have hd0 : d ≠ [] := by intro h; rw [h] at hd1; simp at hd1
        obtain ⟨g, cap, rfl, hcap1, hcap2, hcel, htk⟩ := row_some HW.out hd0
        have hcel := Lib.hid hcel
        have htk := Lib.hid htk
        clear HS HS' hN1 hN2 he2 hr2 hf2 ee er hd0
        by_cases q1 : L e2 = [46]
        · have q1' := eq_lits e2 _ q1
          have hst : NU.rpStep d bi (L e2) = (d, false) := by rw [NU.rpStep, if_pos q1]
          rw [hst] at HN
          clear q1 hst
          go_wp2_with (go_at_call 60; (with_reducible refine (CC.out _).mono ?_); rintro e w3 ⟨rfl, nq, rfl⟩)
          go_roundw
          case rel => exact ⟨d, e2, r2, f2, false, rfl, rfl, rfl, rfl, hfr.drewN _, Lib.hid (HW.out.drewN _), hd1, by omega, by omega, fun h => by omega, HN⟩
          case measure => simp only []; revert hzm; cases f2 <;> simp
        · have q1' := ne_lits e2 _ q1
          by_cases q2 : L e2 = [46, 46]
          · have q2' := eq_lits e2 _ q2
            have hst : NU.rpStep d bi (L e2) = (NU.rpPop d, decide ((NU.rpPop d).length = 1)) := by rw [NU.rpStep, if_neg q1, if_pos q2]
            rw [hst] at HN
            clear q1 q2 hst
            obtain ⟨i, hi⟩ : ∃ i, i = NU.lastIdx 47 (d.drop 1) := ⟨_, rfl⟩
            have hilo := NU.lastIdx_lo 47 (d.drop 1)
            have hihi := NU.lastIdx_hi 47 (d.drop 1)
            rw [List.length_drop] at hihi
            rw [← hi] at hilo hihi
            have hdl : (d.drop 1).length = d.length - 1 := by rw [List.length_drop]
            by_cases hcap : cap = 1
            · have hd2 : d.length = 1 := by omega
              have CB : Hid (∀ n, Calls Try.prog 61 #[.slice (some ⟨g, 0, none⟩) 0 0, .int .u8 47] (wr.drewN n) fun e w' => e = .returned (.int .i64 (-1)) ∧ wr.drewN n = w') := by
                show ∀ n, _
                intro n
                have := bytesLastIndexByte_any g 0 0 [] 47 (wr.drewN n) (by simp) (Lib.hid (by intro j h; cases h))
                exact this
              have hi1 : i = -1 := by omega
              have HP : Hid (NU.rpPop d = d) := by show _ = _; rw [NU.rpPop, ← hi, if_neg (by omega)]; exact List.take_of_length_le (by omega)
              rw [HP.out, hd2] at HN
              have HW' : Hid (Row w.heap.size wr (.slice (some ⟨g, 0, none⟩) 1 1) d) := by have := HW; rw [hd2, hcap] at this; exact this
              clear hi hilo hihi HW hcel htk hdl
              subst hcap
              rw [hd2]
              go_wp2_with (first
                | (go_at_call 60; (with_reducible refine (CC.out _).mono ?_); rintro e w3 ⟨rfl, nq, rfl⟩)
                | (go_at_call 61; (with_reducible refine (CB.out _).mono ?_); rintro e w4 ⟨rfl, rfl⟩))
              go_roundw
              case rel => exact ⟨d, e2, r2, f2, _, rfl, rfl, rfl, rfl, hfr.drewN _, Lib.hid (HW'.out.drewN _), hd1, by omega, by omega, fun h => by omega, HN⟩
              case measure => simp only []; revert hzm; cases f2 <;> simp
            · have CB : Hid (∀ n, Calls Try.prog 61 #[.slice (some ⟨g, 1, none⟩) (d.length - 1) (cap - 1), .int .u8 47] (wr.drewN n) fun e w' => e = .returned (.int .i64 i) ∧ wr.drewN n = w') := by
                show ∀ n, _
                intro n
                have := bytesLastIndexByte_any g 1 (cap - 1) (d.drop 1) 47 (wr.drewN n) (by omega) (Lib.hid (by intro j h; have := hcel.out (1 + j) (by omega); rw [List.getElem_drop]; exact this))
                rw [hdl, ← hi] at this
                exact this
              by_cases hi0 : 0 ≤ i
              · obtain ⟨k, rfl⟩ := Int.eq_ofNat_of_zero_le hi0
                have hk : k + 1 < d.length := by omega
                have HP : Hid (NU.rpPop d = d.take (k + 1)) := by show _ = _; rw [NU.rpPop, ← hi, if_pos hi0]; rfl
                have hlen : (d.take (k + 1)).length = k + 1 := by rw [List.length_take]; omega
                rw [HP.out, hlen] at HN
                have HW' := Lib.hid (htk.out (k + 1) (by omega))
                have tk : ((k : Int) + 1).toNat = k + 1 := by omega
                have kk : k + 1 ≤ cap := by omega
                have hl1 : 1 ≤ (d.take (k + 1)).length := by omega
                have hl2 : (d.take (k + 1)).length ≤ d.length := by omega
                have hfe : (decide (k + 1 = 1)) = ((k : Int) + 1 == 1) := by rw [Bool.eq_iff_iff]; simp; omega
                rw [hfe] at HN
                replace hl1 := Lib.hid hl1
                replace hl2 := Lib.hid hl2
                clear hi hlen hcel htk hdl hfe
                go_wp2_with (first
                  | (go_at_call 60; (with_reducible refine (CC.out _).mono ?_); rintro e w3 ⟨rfl, nq, rfl⟩)
                  | (go_at_call 61; (with_reducible refine (CB.out _).mono ?_); rintro e w4 ⟨rfl, rfl⟩))
                go_roundw
                case rel => exact ⟨d.take (k + 1), e2, r2, f2, _, rfl, rfl, rfl, rfl, hfr.drewN _, Lib.hid (HW'.out.drewN _), hl1.out, by omega, by have := hl2.out; omega, fun h => by have := hl2.out; omega, HN⟩
                case measure => simp only []; revert hzm; cases f2 <;> simp
              · have HP : Hid (NU.rpPop d = d.take 1) := by show _ = _; rw [NU.rpPop, ← hi, if_neg hi0]
                have hlen : (d.take 1).length = 1 := by rw [List.length_take]; omega
                rw [HP.out, hlen] at HN
                have HW' := Lib.hid (htk.out 1 (by omega))
                have hl1 := Lib.hid hlen
                have kk : 1 ≤ cap := by omega
                clear hi hlen hcel htk hdl
                go_wp2_with (first
                  | (go_at_call 60; (with_reducible refine (CC.out _).mono ?_); rintro e w3 ⟨rfl, nq, rfl⟩)
                  | (go_at_call 61; (with_reducible refine (CB.out _).mono ?_); rintro e w4 ⟨rfl, rfl⟩))
                go_roundw
                case rel => exact ⟨d.take 1, e2, r2, f2, _, rfl, rfl, rfl, rfl, hfr.drewN _, Lib.hid (HW'.out.drewN _), by have := hl1.out; omega, by omega, by have := hl1.out; omega, fun h => by have := hl1.out; omega, HN⟩
                case measure => simp only []; revert hzm; cases f2 <;> simp
          · have q2' := ne_lits e2 _ q2
            have hst : NU.rpStep d bi (L e2) = ((if bi then d else d ++ [47]) ++ L e2, false) := by rw [NU.rpStep, if_neg q1, if_neg q2]
            rw [hst] at HN
            have HE : Hid ((L e2).length = e2.size) := Lib.hid (L_length e2)
            clear q1 q2 hst hcel htk
            cases bi
            case false =>
              go_wp2_with (first
                | (go_at_call 60; (with_reducible refine (CC.out _).mono ?_); rintro e w3 ⟨rfl, nq, rfl⟩)
                | (at_builtin; refine wpList_pushC rfl _ _ rfl w _ d 47 _ _ rfl (hfr.drewN _) (by omega) (by rfl) (Lib.hid (HW.out.drewN _)) (by rfl) ?_; intro v' w' hf' hr')
                | (at_builtin; refine wpList_pushS rfl _ _ rfl w _ (d ++ [47]) e2 _ hf' (by simp; omega) (by omega) (by rfl) hr' (by rfl) ?_; intro v2' w2' hf2' hr2'))
              go_roundw
              case rel => exact ⟨d ++ [47] ++ L e2, e2, r2, f2, false, rfl, rfl, rfl, rfl, by assumption, by assumption, by simp; omega, by omega, by simp only [List.length_append, HE.out, List.length_cons, List.length_nil]; omega, fun h => by have := hzf.out h; simp only [List.length_append, HE.out, List.length_cons, List.length_nil]; omega, HN⟩
              case measure => simp only []; revert hzm; cases f2 <;> simp
            case true =>
              go_wp2_with (first
                | (go_at_call 60; (with_reducible refine (CC.out _).mono ?_); rintro e w3 ⟨rfl, nq, rfl⟩)
                | (at_builtin; refine wpList_pushS rfl _ _ rfl w _ d e2 _ (hfr.drewN _) (by omega) (by omega) (by rfl) (Lib.hid (HW.out.drewN _)) (by rfl) ?_; intro v2' w2' hf2' hr2'))
              go_roundw
              case rel => exact ⟨d ++ L e2, e2, r2, f2, false, rfl, rfl, rfl, rfl, by assumption, by assumption, by simp; omega, by omega, by simp only [List.length_append, HE.out]; omega, fun h => by have := hzf.out h; simp only [List.length_append, HE.out]; omega, HN⟩
              case measure => simp only []; revert hzm; cases f2 <;> simp
end Go.Proofs.Ytcbmfimafiolaaa
