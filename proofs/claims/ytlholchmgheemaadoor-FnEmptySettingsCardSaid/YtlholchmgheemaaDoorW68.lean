import Derived.Test.YtlholchmgheemaaDoorW66
import Derived.Test.YtlholchmgheemaaDoorW67
import Derived.Test.YtlholchmgheemaaDoorW33
namespace Go.Proofs.YtlholchmgheemaaDoor
set_option linter.unusedVariables false
set_option linter.unusedSimpArgs false
open Go.RowKit Go.Maps Go.Sort

theorem sbs1 (l : List UInt8) (s : ByteArray) : Lib.byteCells l ++ Lib.strCells s = Lib.byteCells (l ++ L s) := by simp [Lib.byteCells, Lib.strCells]
theorem sbs2 (l : List UInt8) (c : UInt8) : Lib.byteCells l ++ [.int .u8 (c.toNat : Int)] = Lib.byteCells (l ++ [c]) := by simp [Lib.byteCells]
theorem KR.cell {R b : Nat} {w w' : World} (h : KR R b w w') {p : Addr} (hp : p.block < R) (hne : p.block ≠ b) : w'.cell? p = w.cell? p := by
  unfold World.cell?; rw [h.block _ hp hne]
theorem KR.of_fr {R b : Nat} {w w' : World} (f : Fr w w') (hR : R ≤ w.heap.size) : KR R b w w' := ⟨f.os, f.tape, f.output, f.size, fun x hx _ => f.block x (by omega)⟩
theorem size_dmap (S : SL) : Maps.size (dmap S) = S.length := by unfold dmap Maps.size dents; simp
theorem wpList_len_g {ops : Array Oper} {rest : List Oper} {o : Oper} {a : Act} {w : World} {Q : Exit → Act → World → Prop} (hgd : o.guard = none) (m : Operand)
    (hop : o.op = Op.call { callee := Callee.builtin Builtin.len, args := #[m], argTypes := #[47] }) (B b n : Nat) (S : SL) (M : NU.QM) (hm : a.eval m = .map (some b)) (h : Hid (Gmap B w b n S M))
    (hK : wpList Tryd.prog ops Q rest (a.put o.dst (.int .i64 (S.length : Int))) w) : wpList Tryd.prog ops Q (o :: rest) a w := by
  refine wpList_len_own w hgd m _ hop 9 38 Tryd.underlying47 Rsl b n (dmap S) hm h.out.2.1 ?_
  rw [size_dmap]; exact hK
/-- Keys and values are no longer than a string may be. -/
def Small (M : NU.QM) : Prop := ∀ (i : Nat) (h : i < M.length), M[i].1.length ≤ 2147483647 ∧ ∀ (j : Nat) (h' : j < M[i].2.length), M[i].2[j].length ≤ 2147483647
theorem esc_small (m : UInt8) (s : List UInt8) (h : s.length ≤ 2147483647) : (NU.esc m s).length ≤ 6442450941 := by
  rw [NU.esc_length]; have := NU.hexN_le m s; omega
theorem encw_len (a k v : List UInt8) (hk : k.length ≤ 2147483647) (hv : v.length ≤ 2147483647) : (NU.encw a k v).length ≤ a.length + 12884901890 := by
  have h1 := esc_small 32 k hk
  have h2 := esc_small 32 v hv
  unfold NU.encw
  split <;> simp <;> omega
def encUp (M : NU.QM) (k : Nat) : List UInt8 := (M.take k).foldl (fun a p => NU.encv a p.1 p.2) []
theorem encUp_zero (M : NU.QM) : encUp M 0 = [] := rfl
theorem encUp_succ (M : NU.QM) (k : Nat) (h : k < M.length) : encUp M (k + 1) = NU.encv (encUp M k) M[k].1 M[k].2 := by
  unfold encUp; rw [List.take_succ_eq_append_getElem h, List.foldl_append]; rfl
theorem encUp_all (M : NU.QM) (k : Nat) (h : M.length ≤ k) : encUp M k = NU.encq M := by unfold encUp NU.encq; rw [List.take_of_length_le h]
theorem encv_take (a k : List UInt8) (l : List (List UInt8)) (y : Nat) (h : y < l.length) : NU.encv a k (l.take (y + 1)) = NU.encw (NU.encv a k (l.take y)) k l[y] := by
  unfold NU.encv; rw [List.take_succ_eq_append_getElem h, List.foldl_append]; rfl

theorem wbR (R b : Nat) (l : List UInt8) (c : UInt8) (ci : Int) (hc : ci = (c.toNat : Int)) (W : World) (h : Hid (ISR R b (Lib.byteCells l) W)) (hl : Hid (l.length + 1 ≤ 140737488355328)) :
    Calls Tryd.prog 36 #[.pointer (some ⟨b, 0, none⟩), .int .u8 ci] W fun e w' => e = .returned .nilIface ∧ ISR R b (Lib.byteCells (l ++ [c])) w' ∧ KR R b W w' := by
  subst hc
  refine (sbWriteByteR R b _ _ W h.out (by rw [Lib.byteCells, List.length_map]; exact hl.out)).mono ?_
  rintro e w' ⟨rfl, h1, h2⟩
  rw [sbs2] at h1
  exact ⟨rfl, .inr h1, h2⟩
theorem wsR (R b : Nat) (l : List UInt8) (s : ByteArray) (W : World) (h : Hid (ISR R b (Lib.byteCells l) W)) (hl : Hid (l.length + s.size ≤ 140737488355328)) :
    Calls Tryd.prog 37 #[.pointer (some ⟨b, 0, none⟩), .string s] W fun e w' => e = .returned (.tuple #[.int .i64 s.size, .nilIface]) ∧ ISR R b (Lib.byteCells (l ++ L s)) w' ∧ KR R b W w' := by
  refine (sbWriteStringR R b _ s W h.out (by rw [Lib.byteCells, List.length_map]; exact hl.out)).mono ?_
  rintro e w' ⟨rfl, h1, h2⟩
  rw [sbs1] at h1
  exact ⟨rfl, .inr h1, h2⟩
theorem lenR (R b : Nat) (l : List UInt8) (W : World) (h : Hid (ISR R b (Lib.byteCells l) W)) :
    Calls Tryd.prog 35 #[.pointer (some ⟨b, 0, none⟩)] W fun e w' => e = .returned (.int .i64 (l.length : Int)) ∧ W = w' := by
  have := sbLen b b _ W h.out.isb
  rw [Lib.byteCells, List.length_map] at this
  exact this
set_option maxRecDepth 100000 in
set_option maxHeartbeats 16000000 in
theorem urlEncode_any (B b n : Nat) (S : SL) (M : NU.QM) (w : World) (hG : Hid (Gmap B w b n S M)) (hn : S.length ≤ 2000) (hT : Hid (NU.total M ≤ 2000)) (hS : Hid (Small M)) (ht : Hid (Tab w)) :
    Calls Tryd.prog 27 #[.map (some b)] w fun e w' => e = .returned (.string (mk (NU.encq M))) ∧ Fr w w' := by
  obtain ⟨N, hN⟩ : ∃ N, N = S.length := ⟨_, rfl⟩
  have HN := Lib.hid hN
  have HNM : Hid (M.length = N) := by show _ = _; rw [hN, hG.out.1.len]
  by_cases h0 : N = 0
  · have hM : M = [] := List.eq_nil_of_length_eq_zero (by rw [HNM.out, h0])
    have hb0 : ((S.length : Int) == 0) = true := by rw [← hN, h0]; rfl
    have hSl : S.length = 0 := by omega
    subst hM
    clear hN
    go_enter Tryd.func27, Tryd.ntmps27
    go_wp2_with (first
      | (at_len; refine wpList_len_g rfl _ rfl B b n S [] rfl hG ?_)
      | fail)
    go_ret
    exact ⟨rfl, Fr.refl _⟩
  · have hb0 : ((N : Int) == 0) = false := by simpa using fun e => h0 (by omega)
    have mks := make_strs N (by omega)
    have hn2 : N ≤ 2000 := by omega
    have HL : Hid (∀ (ops : Array Oper) (rest : List Oper) (o : Oper) (a : Act) (W : World) (Q : Exit → Act → World → Prop) (hgd : o.guard = none) (m : Operand)
        (hop : o.op = Op.call { callee := Callee.builtin Builtin.len, args := #[m], argTypes := #[47] }) (hm : a.eval m = .map (some b)) (hf : Fr w W)
        (hK : wpList Tryd.prog ops Q rest (a.put o.dst (.int .i64 (N : Int))) W), wpList Tryd.prog ops Q (o :: rest) a W) := by
      intro ops rest o a W Q hgd m hop hm hf hK
      exact wpList_len_g hgd m hop B b n S M hm (Lib.hid (hG.out.fr hf)) (by rw [← hN]; exact hK)
    clear hN
    go_enter Tryd.func27, Tryd.ntmps27
    go_wp2_with (first
      | (at_len; refine HL.out _ _ _ _ _ _ rfl _ rfl rfl (by first | exact Fr.refl _ | exact (Fr.refl _).alloc _) ?_)
      | (at_range; refine wpList_range_own _ rfl _ 47 rfl 9 38 lawK Tryd.underlying47 Rsl b n (dmap S) rfl (hG.out.fr (((Fr.refl _).alloc _).alloc _)).2.1 ?_; intro w0 hrg0 hg0 hs0; replace hrg0 := Lib.hid hrg0; replace hg0 := Lib.hid hg0; replace hs0 := Lib.hid hs0)
      | fail)
    go_frame
    have e2 : ((w.alloc (.cells #[.pointer none, .slice none 0 0] 69)).alloc (.cells (Array.replicate N (.string ⟨#[]⟩)) 9)).heap.size = w.heap.size + 1 + 1 := by simp
    have hrg1 : Hid (w0.ranges Tryd.prog 9 Rsl b (w.heap.size + 1 + 1) n (dmap S) (has (dmap S)) (size (dmap S))) := by
      have := hrg0.out; rw [e2] at this; exact this
    have HW0 : Hid (Fr ((w.alloc (.cells #[.pointer none, .slice none 0 0] 69)).alloc (.cells (Array.replicate N (.string ⟨#[]⟩)) 9)) w0) := ⟨hg0.out.os, hg0.out.tape, hg0.out.output, hg0.out.size, fun k hk => hg0.out.block k hk (by simp)⟩
    have HF0 : Hid (Fr w w0) := (((Fr.refl w).alloc _).alloc _).trans HW0.out
    have hsz0 : w0.heap.size = w.heap.size + 3 := by rw [hs0.out, e2]
    have HSR0 : Hid (SRow w.heap.size w0 (.slice (some ⟨w.heap.size + 1, 0, none⟩) N N) (List.replicate N [])) := by
      have h1 := SRow.made w.heap.size N (w.alloc (.cells #[.pointer none, .slice none 0 0] 69)) (by simp) (by omega)
      have h2 := h1.kept hg0.out (.inr (by simp [Value.ownBlock]))
      rw [show (w.alloc (.cells #[.pointer none, .slice none 0 0] 69)).heap.size = w.heap.size + 1 by simp] at h2
      exact h2
    have HBk0 : Hid (Blk w0 w.heap.size 69 #[.pointer none, .slice none 0 0]) := ((Blk.new w 69 #[.pointer none, .slice none 0 0]).alloc _).below HW0.out (by rw [e2]; omega)
    rw [e2]
    clear hrg0 hg0 hs0 HW0 e2
    go_loopw [5] (fun i wr => ∃ (left : Lit → Bool) (cnt : Nat) (ks : List (List UInt8)) (m : Nat), i = .int .i64 (ks.length : Int) ∧ Hid (N = ks.length + m) ∧ Hid (wr.ranges Tryd.prog 9 Rsl b (w.heap.size + 1 + 1) n (dmap S) left cnt) ∧ Hid (Fr w wr) ∧ Hid (w.heap.size + 3 ≤ wr.heap.size) ∧ Hid (SRow w.heap.size wr (.slice (some ⟨w.heap.size + 1, 0, none⟩) N N) (ks ++ List.replicate m [])) ∧ Hid (Blk wr w.heap.size 69 #[.pointer none, .slice none 0 0]) ∧ Hid (Collected (dmap S) left ks) ∧ Hid (ks.length + cnt ≤ N)) (fun _ wr => wr.rangeLeft b (w.heap.size + 1 + 1))
    case atStart => exact ⟨_, _, [], N, rfl, by show _ = _; simp, hrg1, HF0, by show _ ≤ _; omega, HSR0, HBk0, Collected.start _, by show _ ≤ _; rw [size_dmap, ← HN.out]; simp⟩
    case round =>
      clear hrg1 HF0 HSR0 HBk0 hsz0
      obtain ⟨left, cnt, ks, m, rfl, HM, HR, HF, HZ, HSR, HBk, HC, HCnt⟩ := hrel
      have HGr := Lib.hid ((hG.out.fr HF.out).1)
      go_wp2_with (first
        | (at_next; refine wpList_next_g rfl _ rfl B b (w.heap.size + 1 + 1) n S M left cnt rfl HR HGr ?_ ?_)
        | fail)
      · intro hl0
        have hperm := HC.out.perm (hG.out.fr HF.out).2.1 lawK Tryd.underlying9 hl0
        obtain ⟨hsrt, hkl⟩ := keys_sorted hG.out.1.ss hperm
        have hm0 : m = 0 := by have h1 := HM.out; have h2 := HN.out; omega
        subst hm0
        have HSR2 : Hid (SRow w.heap.size wr (.slice (some ⟨w.heap.size + 1, 0, none⟩) N N) ks) := by
          have := HSR.out; rw [List.replicate_zero, List.append_nil] at this; exact this
        have CS := Lib.hid (sort_keys w.heap.size (w.heap.size + 1) N wr ks (by have h2 := HN.out; omega) (by omega) HSR2)
        rw [hsrt] at CS
        clear hl0 hperm hsrt hkl HSR HC HR
        go_wp2_with (first
          | (go_at_call 34; (with_reducible refine CS.out.mono ?_); rintro e w3 ⟨rfl, hsr, hg3⟩; replace hsr := Lib.hid hsr; replace hg3 := Lib.hid hg3))
        have HF3 : Hid (Fr w w3) := Below.grown HF.out hg3.out (by have := HZ.out; omega) (fun j hj => by cases hj; omega)
        have HBk3 : Hid (Blk w3 w.heap.size 69 #[.pointer none, .slice none 0 0]) := (hg3.out.block _ HBk.out.lt (by simp)).trans HBk.out
        have hszR : w.heap.size + 3 ≤ w3.heap.size := Nat.le_trans HZ.out hg3.out.size
        have HI3 : Hid (ISR w3.heap.size w.heap.size (Lib.byteCells (encUp M 0)) w3) := .inl ⟨by omega, Nat.le_refl _, .slice none 0 0, HBk3.out, World.ownsRow_nil _ _ _ _⟩
        have HKC : Hid (∀ (k : Nat) (h : k < M.length), w3.cell? ⟨w.heap.size + 1, k, none⟩ = some (.string (mk M[k].1))) := by
          intro k h
          have hkS : k < S.length := by rw [hG.out.1.len]; exact h
          have h1 := hsr.out
          unfold SRow at h1
          rw [show (S.map (·.1)).length = N by simpa using HN.out.symm] at h1
          have hkS' : k < (S.map (·.1)).length := by simpa using hkS
          have := ownsRow_cell h1 k (.string (mk ((S.map (·.1))[k]'hkS'))) (sCells_at _ _ hkS')
          rw [List.getElem_map, hG.out.1.key_at k hkS h] at this
          exact this
        clear hsr hg3 HF HZ HBk HCnt HGr HM HSR2 CS
        go_loopw [35] (fun i wr => ∃ (k c : Nat), k ≤ N ∧ i = .int .i64 (k : Int) ∧ c ≤ 2000 ∧ Hid (c = NU.total (M.take k)) ∧ Hid (Fr w wr) ∧ Hid (KR w3.heap.size w.heap.size w3 wr) ∧ Hid (ISR w3.heap.size w.heap.size (Lib.byteCells (encUp M k)) wr) ∧ Hid ((encUp M k).length ≤ c * 12884901890)) (fun i _ => N - (intOf i).toNat)
        case atStart => exact ⟨0, 0, by omega, rfl, by omega, by show _ = _; simp [NU.total], HF3, KR.refl _ _ _, HI3, by show _ ≤ _; rw [encUp_zero]; simp⟩
        case round =>
          rename World => wa
          obtain ⟨k, c, hk, rfl, hc2, HTc, HFa, HKa, HIa, HLa⟩ := hrel
          by_cases hkN : k < N
          case neg =>
            have hkN' : N ≤ k := by omega
            have he : encUp M k = NU.encq M := encUp_all M k (by rw [HNM.out]; exact hkN')
            rw [he] at HIa
            have CST := Lib.hid (sbString w.heap.size w.heap.size (NU.encq M) wa HIa.out.isb HFa.out.size)
            clear hkN he
            go_wp2_with (go_at_call 38; (with_reducible refine CST.out.mono ?_); rintro e w9 ⟨rfl, hb9⟩; replace hb9 := Lib.hid hb9)
            go_ret
            exact ⟨rfl, Below.trans HFa.out hb9.out⟩
          case pos =>
            have i1 : k < M.length := by rw [HNM.out]; exact hkN
            have iS : k < S.length := by rw [hG.out.1.len]; exact i1
            obtain ⟨K, hK⟩ : ∃ K, K = mk M[k].1 := ⟨_, rfl⟩
            obtain ⟨l, hl⟩ : ∃ l, l = M[k].2 := ⟨_, rfl⟩
            have hLK : L K = M[k].1 := by rw [hK, L_mk]
            have HlM : Hid (NU.look (L K) M = some l) := by show _ = _; rw [hLK, hl]; exact NU.look_of_mem hG.out.1.sm (List.getElem_mem i1)
            obtain ⟨v, hv⟩ : ∃ v, v = S[k].2 := ⟨_, rfl⟩
            have HlS : Hid (NU.look (L K) S = some v) := by show _ = _; rw [hLK, hv, ← hG.out.1.key_at k iS i1]; exact NU.look_of_mem hG.out.1.ss (List.getElem_mem iS)
            obtain ⟨hrow, hl0⟩ := hG.out.1.rows _ _ _ HlS.out HlM.out
            obtain ⟨gv, capv, rfl, _, hgv, hcv⟩ := hrow.form hl0
            replace hcv := Lib.hid hcv
            have hKz : K.size ≤ 2147483647 := by rw [← L_length, hLK]; exact (hS.out k i1).1
            have HVz : Hid (∀ (j : Nat) (h : j < l.length), l[j].length ≤ 2147483647) := by subst hl; exact (hS.out k i1).2
            have HTk : Hid (NU.total (M.take (k + 1)) = c + l.length) := by show _ = _; rw [NU.total_take _ _ i1, ← HTc.out, hl]
            have hcl : c + l.length ≤ 2000 := by rw [← HTk.out]; exact Nat.le_trans (NU.total_le _ _) hT.out
            have HUP : Hid (encUp M (k + 1) = NU.encv (encUp M k) (L K) l) := by show _ = _; rw [encUp_succ M k i1, hLK, hl]
            have c0 : wa.cell? ⟨w.heap.size + 1, k, none⟩ = some (.string K) := by
              rw [HKa.out.cell (p := ⟨w.heap.size + 1, k, none⟩) (by show w.heap.size + 1 < _; omega) (by show w.heap.size + 1 ≠ _; omega), hK]; exact HKC.out k i1
            obtain ⟨KE, hKE⟩ : ∃ KE, KE = mk (NU.esc 32 (L K)) := ⟨_, rfl⟩
            have HKE : Hid (L KE = NU.esc 32 (L K)) := by show _ = _; rw [hKE, L_mk]
            have hKEz : KE.size ≤ 6442450941 := by rw [← L_length, HKE.out]; exact esc_small 32 _ (by rw [L_length]; exact hKz)
            have CE := Lib.hid (QueryEscape_any K (by omega))
            rw [← hKE] at CE
            have HGa := Lib.hid (hG.out.fr HFa.out)
            have HTa := Lib.hid (ht.out.fr HFa.out)
            clear hK hl hLK hv hrow hKE
            go_wp2_with (first
              | (at_lookup; refine wpList_look_g rfl _ _ rfl B b n S M rfl HGa K rfl (by omega) ?_; intro v4 l4 hv4 hl4 hr4; rw [HlS.out, Option.getD_some] at hv4; subst hv4)
              | (go_at_call 28; (with_reducible refine (CE.out _ HTa).mono ?_); rintro e w4 ⟨rfl, hf4⟩; replace hf4 := Lib.hid hf4)
              | fail)
            have HF4 := Lib.hid (HFa.out.trans hf4.out)
            have HK4 := Lib.hid (HKa.out.trans (KR.of_fr hf4.out HKa.out.size))
            have HI4 := Lib.hid (HIa.out.fr hf4.out)
            have hbR : w.heap.size < w3.heap.size := by omega
            go_loopw [46] (fun i wr => ∃ (y : Nat), y ≤ l.length ∧ i = .int .i64 (y : Int) ∧ Hid (Fr w wr) ∧ Hid (KR w3.heap.size w.heap.size w3 wr) ∧ Hid (ISR w3.heap.size w.heap.size (Lib.byteCells (NU.encv (encUp M k) (L K) (l.take y))) wr) ∧ Hid ((NU.encv (encUp M k) (L K) (l.take y)).length ≤ (c + y) * 12884901890)) (fun i _ => l.length - (intOf i).toNat)
            case atStart => exact ⟨0, by omega, rfl, HF4, HK4, by rw [List.take_zero]; exact HI4, by rw [List.take_zero]; exact HLa⟩
            case round =>
              rename World => wb
              clear HF4 HK4 HI4 hf4 HGa HTa HFa HKa HIa HLa c0 CE
              obtain ⟨y, hy, rfl, HFb, HKb, HIb, HLb⟩ := hrel
              by_cases hyl : y < l.length
              case neg =>
                have hyl' : l.length ≤ y := by omega
                have he : NU.encv (encUp M k) (L K) (l.take y) = encUp M (k + 1) := by rw [List.take_of_length_le hyl', HUP.out]
                rw [he] at HIb HLb
                have HLb2 : Hid ((encUp M (k + 1)).length ≤ (c + l.length) * 12884901890) := by
                  show _ ≤ _; have := HLb.out; rw [show y = l.length by omega] at this; exact this
                clear hyl he
                go_wp2
                go_roundw
                case rel => exact ⟨k + 1, c + l.length, by omega, by go_num, hcl, HTk.out.symm, HFb, HKb, HIb, HLb2⟩
                case measure => first | (simp [intOf]; done) | (simp [intOf]; omega)
              case pos =>
                obtain ⟨acc, hacc⟩ : ∃ acc, acc = NU.encv (encUp M k) (L K) (l.take y) := ⟨_, rfl⟩
                rw [← hacc] at HIb HLb
                obtain ⟨xs, hxs⟩ : ∃ xs, xs = mk l[y] := ⟨_, rfl⟩
                have hxl : L xs = l[y] := by rw [hxs, L_mk]
                have c1 : wb.cell? ⟨gv, y, none⟩ = some (.string xs) := by rw [hxs]; exact cell_fr HFb.out (hcv.out y hyl)
                have hxz : xs.size ≤ 2147483647 := by rw [← L_length, hxl]; exact HVz.out y hyl
                obtain ⟨XE, hXE⟩ : ∃ XE, XE = mk (NU.esc 32 (L xs)) := ⟨_, rfl⟩
                have HXE : Hid (L XE = NU.esc 32 (L xs)) := by show _ = _; rw [hXE, L_mk]
                have hXEz : XE.size ≤ 6442450941 := by rw [← L_length, HXE.out]; exact esc_small 32 _ (by rw [L_length]; exact hxz)
                have CXE := Lib.hid (QueryEscape_any xs (by omega))
                rw [← hXE] at CXE
                have HNX : Hid (NU.encv (encUp M k) (L K) (l.take (y + 1)) = (if acc = [] then acc else acc ++ [38]) ++ L KE ++ [61] ++ L XE) := by
                  show _ = _
                  rw [encv_take _ _ _ _ hyl, ← hacc, ← hxl, HKE.out, HXE.out]; unfold NU.encw; simp
                have HLN : Hid ((NU.encv (encUp M k) (L K) (l.take (y + 1))).length ≤ (c + (y + 1)) * 12884901890) := by
                  show _ ≤ _
                  rw [encv_take _ _ _ _ hyl, ← hacc, ← hxl]
                  have := encw_len acc (L K) (L xs) (by rw [L_length]; exact hKz) (by rw [L_length]; exact hxz)
                  have h2 := HLb.out
                  omega
                have hab : acc.length ≤ 25769803780000 := by have := HLb.out; omega
                clear hacc hxs hxl hXE
                have HIx := HIb
                have HKx := HKb
                have HFx := HFb
                by_cases hac : acc = []
                case pos =>
                  subst hac
                  rw [if_pos rfl] at HNX
                  have CL : Hid (Calls Tryd.prog 35 #[.pointer (some ⟨w.heap.size, 0, none⟩)] wb fun e w' => e = .returned (.int .i64 0) ∧ wb = w') := lenR _ _ [] wb HIb
                  have CK := Lib.hid (fun W hW => wsR w3.heap.size w.heap.size [] KE W hW (by show _ ≤ _; simp; omega))
                  have C61 := Lib.hid (fun W hW => wbR w3.heap.size w.heap.size ([] ++ L KE) 61 61 rfl W hW (by show _ ≤ _; rw [List.nil_append, L_length]; omega))
                  have CX := Lib.hid (fun W hW => wsR w3.heap.size w.heap.size ([] ++ L KE ++ [61]) XE W hW (by show _ ≤ _; rw [List.length_append, List.nil_append, L_length]; simp; omega))
                  clear HIb HKb HFb HLb
                  go_wp2_with (first
                    | (go_at_call 35; (with_reducible refine CL.out.mono ?_); rintro e w5 ⟨rfl, rfl⟩)
                    | (go_at_call 37; (with_reducible refine (CK.out _ HIx).mono ?_); rintro e w6 ⟨rfl, hi5, hk5⟩; replace HIx := Lib.hid hi5; replace HKx := Lib.hid (HKx.out.trans hk5); replace HFx : Hid (Fr w _) := Lib.hid (Below.trans HFx.out (hk5.below (Nat.le_refl _) hbR)); clear hi5 hk5)
                    | (go_at_call 36; (with_reducible refine (C61.out _ HIx).mono ?_); rintro e w7 ⟨rfl, hi5, hk5⟩; replace HIx := Lib.hid hi5; replace HKx := Lib.hid (HKx.out.trans hk5); replace HFx : Hid (Fr w _) := Lib.hid (Below.trans HFx.out (hk5.below (Nat.le_refl _) hbR)); clear hi5 hk5)
                    | (go_at_call 28; (with_reducible refine (CXE.out _ (Lib.hid (ht.out.fr HFx.out))).mono ?_); rintro e w8 ⟨rfl, hf8⟩; replace HIx := Lib.hid (HIx.out.fr hf8); replace HKx := Lib.hid (HKx.out.trans (KR.of_fr hf8 HKx.out.size)); replace HFx : Hid (Fr w _) := Lib.hid (Fr.trans HFx.out hf8); clear hf8)
                    | (go_at_call 37; (with_reducible refine (CX.out _ HIx).mono ?_); rintro e w9 ⟨rfl, hi5, hk5⟩; replace HIx := Lib.hid hi5; replace HKx := Lib.hid (HKx.out.trans hk5); replace HFx : Hid (Fr w _) := Lib.hid (Below.trans HFx.out (hk5.below (Nat.le_refl _) hbR)); clear hi5 hk5))
                  go_roundw
                  case rel => exact ⟨y + 1, by omega, by go_num, HFx, HKx, by rw [HNX.out]; exact HIx, HLN⟩
                  case measure => first | (simp [intOf]; done) | (simp [intOf]; omega)
                case neg =>
                  rw [if_neg hac] at HNX
                  have hpos : 0 < (acc.length : Int) := by have := List.length_pos_iff.2 hac; omega
                  have hpos2 : 0 < acc.length := List.length_pos_iff.2 hac
                  have CL := Lib.hid (lenR _ _ acc wb HIb)
                  have C38 := Lib.hid (fun W hW => wbR w3.heap.size w.heap.size acc 38 38 rfl W hW (by show _ ≤ _; omega))
                  have CK := Lib.hid (fun W hW => wsR w3.heap.size w.heap.size (acc ++ [38]) KE W hW (by show _ ≤ _; rw [List.length_append]; simp; omega))
                  have C61 := Lib.hid (fun W hW => wbR w3.heap.size w.heap.size (acc ++ [38] ++ L KE) 61 61 rfl W hW (by show _ ≤ _; rw [List.length_append, List.length_append, L_length]; simp; omega))
                  have CX := Lib.hid (fun W hW => wsR w3.heap.size w.heap.size (acc ++ [38] ++ L KE ++ [61]) XE W hW (by show _ ≤ _; rw [List.length_append, List.length_append, List.length_append, L_length]; simp; omega))
                  clear HIb HKb HFb HLb hac
                  go_wp2_with (first
                    | (go_at_call 35; (with_reducible refine CL.out.mono ?_); rintro e w5 ⟨rfl, rfl⟩)
                    | (go_at_call 36; (with_reducible refine (C38.out _ HIx).mono ?_); rintro e w5 ⟨rfl, hi5, hk5⟩; replace HIx := Lib.hid hi5; replace HKx := Lib.hid (HKx.out.trans hk5); replace HFx : Hid (Fr w _) := Lib.hid (Below.trans HFx.out (hk5.below (Nat.le_refl _) hbR)); clear hi5 hk5)
                    | (go_at_call 37; (with_reducible refine (CK.out _ HIx).mono ?_); rintro e w6 ⟨rfl, hi5, hk5⟩; replace HIx := Lib.hid hi5; replace HKx := Lib.hid (HKx.out.trans hk5); replace HFx : Hid (Fr w _) := Lib.hid (Below.trans HFx.out (hk5.below (Nat.le_refl _) hbR)); clear hi5 hk5)
                    | (go_at_call 36; (with_reducible refine (C61.out _ HIx).mono ?_); rintro e w7 ⟨rfl, hi5, hk5⟩; replace HIx := Lib.hid hi5; replace HKx := Lib.hid (HKx.out.trans hk5); replace HFx : Hid (Fr w _) := Lib.hid (Below.trans HFx.out (hk5.below (Nat.le_refl _) hbR)); clear hi5 hk5)
                    | (go_at_call 28; (with_reducible refine (CXE.out _ (Lib.hid (ht.out.fr HFx.out))).mono ?_); rintro e w8 ⟨rfl, hf8⟩; replace HIx := Lib.hid (HIx.out.fr hf8); replace HKx := Lib.hid (HKx.out.trans (KR.of_fr hf8 HKx.out.size)); replace HFx : Hid (Fr w _) := Lib.hid (Fr.trans HFx.out hf8); clear hf8)
                    | (go_at_call 37; (with_reducible refine (CX.out _ HIx).mono ?_); rintro e w9 ⟨rfl, hi5, hk5⟩; replace HIx := Lib.hid hi5; replace HKx := Lib.hid (HKx.out.trans hk5); replace HFx : Hid (Fr w _) := Lib.hid (Below.trans HFx.out (hk5.below (Nat.le_refl _) hbR)); clear hi5 hk5))
                  go_roundw
                  case rel => exact ⟨y + 1, by omega, by go_num, HFx, HKx, by rw [HNX.out]; exact HIx, HLN⟩
                  case measure => first | (simp [intOf]; done) | (simp [intOf]; omega)
      · intro key gl capl l w1 cnt1 hkz hlM hlS hleft hrl hl0 hrg1 hcnt hg1 hs1 hen
        have hlt : ks.length < N := by have := HCnt.out; omega
        obtain ⟨m', hm'⟩ : ∃ m', m = m' + 1 := ⟨m - 1, by have := HM.out; omega⟩
        subst hm'
        have HSR1 : Hid (SRow w.heap.size w1 (.slice (some ⟨w.heap.size + 1, 0, none⟩) N N) (ks ++ List.replicate (m' + 1) [])) := HSR.out.kept hg1 (.inr (by simp [Value.ownBlock]))
        have HBk1 : Hid (Blk w1 w.heap.size 69 #[.pointer none, .slice none 0 0]) := (hg1.block _ HBk.out.lt (by simp; omega)).trans HBk.out
        have HKey := Lib.hid (HSR1.out.key HM.out key)
        have hown : w1.ownsRow w.heap.size 9 1 (.slice (some ⟨w.heap.size + 1, 0, none⟩) N N) N (sCells (ks ++ List.replicate (m' + 1) [])) := by
          have h1 := HSR1.out
          unfold SRow at h1
          rw [show (ks ++ List.replicate (m' + 1) ([] : List UInt8)).length = N by have := HM.out; simp; omega] at h1
          exact h1
        obtain ⟨z1, hz1⟩ := Option.isSome_iff_exists.1 (ownsRow_some hown ks.length (by omega))
        have fz1 := ownsRow_frozen hown ks.length
        have HCn : Hid (Collected (dmap S) (fun z => left z && !z.sameKey (.string (L key))) (ks ++ [L key])) := by
          exact HC.out.step hleft (fun zd => by rw [dmap_at, hlS]; rfl)
        have hbl : b < w.heap.size := hG.out.2.1.lt
        have HRn : Hid ((w1.setCell ⟨w.heap.size + 1, ks.length, none⟩ (.string key)).ranges Tryd.prog 9 Rsl b (w.heap.size + 1 + 1) n (dmap S) (fun z => left z && !z.sameKey (.string (L key))) cnt1) :=
          hrg1.kept (setCell_grown _ _ _ _) (by simp; omega) (by simp)
        have hz0 : w.heap.size ≤ wr.heap.size := by have := HZ.out; omega
        have HFn : Hid (Fr w (w1.setCell ⟨w.heap.size + 1, ks.length, none⟩ (.string key))) :=
          Fr.setCell (Below.grown HF.out hg1 hz0 (fun j hj => by cases hj; omega)) (by show w.heap.size ≤ w.heap.size + 1; omega) _
        have HBn : Hid (Blk (w1.setCell ⟨w.heap.size + 1, ks.length, none⟩ (.string key)) w.heap.size 69 #[.pointer none, .slice none 0 0]) := HBk1.out.far (by show w.heap.size ≠ w.heap.size + 1; omega) _
        have HZn : Hid (w.heap.size + 3 ≤ (w1.setCell ⟨w.heap.size + 1, ks.length, none⟩ (.string key)).heap.size) := by
          show _ ≤ _; have := HZ.out; simp only [World.setCell, Array.size_modify]; omega
        have HMn : Hid (N = (ks ++ [L key]).length + m') := by show _ = _; have := HM.out; simp; omega
        have HCntn : Hid ((ks ++ [L key]).length + cnt1 ≤ N) := by show _ ≤ _; have := HCnt.out; simp; omega
        have Hcnt := Lib.hid hcnt
        have hen2 : (Instr.entry (.pointer (some ⟨w.heap.size + 1 + 1, 0, none⟩))).run Tryd.prog w1 = .ok (.tuple #[.string key, .slice (some ⟨gl, 0, none⟩) l.length capl]) w1 := by
          exact hen
        clear hlM hlS hleft hrl hl0 hrg1 hcnt hg1 hs1 hkz hown hen
        go_wp2
        go_roundw
        case rel => exact ⟨_, cnt1, ks ++ [L key], m', by rw [List.length_append]; first | rfl | go_num, HMn, HRn, HFn, HZn, HKey, HBn, HCn, HCntn⟩
        case measure => rw [HRn.out.left_eq, HR.out.left_eq]; exact Hcnt.out
end Go.Proofs.YtlholchmgheemaaDoor
