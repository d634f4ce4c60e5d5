import Derived.Test.YtibcegbacnjmfaaGreatDoorChecked
import Derived.Test.YtibcegbacnjmfaaGreatDoorP
import Derived.WalkKit
import Derived.WalkSpells
import Derived.WalkLawsBesides
import Derived.Lib.Hide
import Derived.Laws.IdiomStrings
import Derived.Lib.Strings
import Derived.Deep.QuietTactic
import Derived.BigQuiet
namespace Go.Proofs.YtibcegbacnjmfaaGreatDoor
set_option linter.unusedVariables false
set_option linter.unusedSimpArgs false
open Go.RowKit

theorem ret_int {k : IntKind} {a b : Int} (h : a = b) : Ending.returned (.int k a) = .returned (.int k b) := by rw [h]
theorem ret_bool {a b : Bool} (h : a = b) : Ending.returned (.bool a) = .returned (.bool b) := by rw [h]
abbrev L (s : ByteArray) : List UInt8 := s.data.toList
theorem u8_lt (c : UInt8) : (c.toNat : Int) ≤ 255 := by have := c.toNat_lt; omega
theorem u8_lt' (c : UInt8) : c.toNat ≤ 255 := by have := c.toNat_lt; omega
theorem drop_cons (s : ByteArray) (k : Nat) (h : k < s.size) : (L s).drop k = s[k] :: (L s).drop (k + 1) :=
  List.drop_eq_getElem_cons (by simpa using h)
theorem drop_end (s : ByteArray) (k : Nat) (h : s.size ≤ k) : (L s).drop k = [] := List.drop_eq_nil_of_le (by simpa using h)

/-- Nothing that was there has turned. -/
def Fr (w w' : World) : Prop := Below w.heap.size w w'
theorem Fr.refl (w : World) : Fr w w := Below.refl _ _
theorem Fr.size {a b : World} (h : Fr a b) : a.heap.size ≤ b.heap.size := Below.size h
theorem Fr.trans {a b c : World} (h : Fr a b) (k : Fr b c) : Fr a c := Below.trans h (Below.mono k h.size)
theorem Fr.drew {a b : World} (h : Fr a b) : Fr a b.drew := Below.drew h
theorem Fr.drewN {a b : World} (h : Fr a b) (n : Nat) : Fr a (b.drewN n) := by
  have h' : Below a.heap.size a b := h
  exact ⟨h'.os, h'.tape, h'.output, h'.size, h'.block⟩
theorem Fr.alloc {a b : World} (h : Fr a b) (o : Obj) : Fr a (b.alloc o) := Below.alloc h h.size o
theorem Fr.setCell {a b : World} (h : Fr a b) {p : Addr} (hp : a.heap.size ≤ p.block) (u : Value) : Fr a (b.setCell p u) := Below.setCell h hp u
theorem Fr.of_q {a b : World} (h : ∃ n, b = a.drewN n) : Fr a b := by obtain ⟨n, rfl⟩ := h; exact (Fr.refl a).drewN n

set_option maxHeartbeats 400000 in
theorem isDigit_any (c : UInt8) (w : World) :
    Calls Tryz.prog 27 #[.int .u8 (c.toNat : Int)] w fun e w' => e = .returned (.bool (NU.isDigit c)) ∧ w = w' := by
  have h1 := u8_lt c
  go_enter Tryz.func27, Tryz.ntmps27
  go_wp2
  all_goals go_ret
  all_goals exact ⟨ret_bool (by rw [Bool.eq_iff_iff]; simp [NU.isDigit]; omega), rfl⟩

set_option maxHeartbeats 400000 in
theorem isAlpha_any (c : UInt8) (w : World) :
    Calls Tryz.prog 26 #[.int .u8 (c.toNat : Int)] w fun e w' => e = .returned (.bool (NU.isAlpha c)) ∧ w = w' := by
  have h1 := u8_lt c
  go_enter Tryz.func26, Tryz.ntmps26
  go_wp2
  all_goals go_ret
  all_goals exact ⟨ret_bool (by rw [Bool.eq_iff_iff]; simp [NU.isAlpha]; omega), rfl⟩

set_option maxHeartbeats 400000 in
theorem hex_any (c : UInt8) (w : World) :
    Calls Tryz.prog 29 #[.int .u8 (c.toNat : Int)] w fun e w' => e = .returned (.int .i64 (NU.hexv c)) ∧ w = w' := by
  have h1 := u8_lt c
  have h0 : 0 ≤ (c.toNat : Int) := by omega
  by_cases hd : NU.isDigit c = true
  · have h2 : 48 ≤ (c.toNat : Int) ∧ (c.toNat : Int) ≤ 57 := by simp [NU.isDigit] at hd; omega
    obtain ⟨h2, h3⟩ := h2
    go_enter Tryz.func29, Tryz.ntmps29
    go_wp2_with (go_at_call 27; refine (isDigit_any _ _).mono ?_; rintro e w' ⟨rfl, rfl⟩)
    go_ret
    exact ⟨ret_int (by simp [NU.hexv, hd]), rfl⟩
  · have hd : NU.isDigit c = false := by simpa using hd
    go_enter Tryz.func29, Tryz.ntmps29
    go_wp2_with (go_at_call 27; refine (isDigit_any _ _).mono ?_; rintro e w' ⟨rfl, rfl⟩)
    all_goals go_ret
    all_goals refine ⟨ret_int ?_, rfl⟩
    all_goals simp only [NU.hexv, hd]
    all_goals (repeat' split) <;> first | omega | simp_all
    all_goals omega

set_option maxHeartbeats 400000 in
theorem begins_any (s t : ByteArray) (w : World) (hs : s.size ≤ 35184372088832) (ht : t.size ≤ 35184372088832) :
    Calls Tryz.prog 16 #[.string s, .string t] w fun e w' => e = .returned (.bool (NU.begins (L s) (L t))) ∧ w = w' := by
  by_cases h : t.size ≤ s.size
  all_goals go_enter Tryz.func16, Tryz.ntmps16
  all_goals go_wp2
  all_goals go_ret
  · exact ⟨ret_bool (by rw [NU.begins, Lib.toList_data, Lib.toList_data, Lib.extract_data]; have := Lib.hasPrefix_of_take (L s) (L t); simpa [Lib.hasPrefix, h] using this), rfl⟩
  · exact ⟨ret_bool (by have := Lib.hasPrefix_of_take (L s) (L t); simpa [Lib.hasPrefix, h, NU.begins] using this), rfl⟩

theorem mem_one (c d : UInt8) : NU.mem [c] d = (d == c) := by simp [NU.mem]
theorem u8_eq (c d : UInt8) : ((c.toNat : Int) == (d.toNat : Int)) = (c == d) := by
  rw [Bool.eq_iff_iff]; simp only [beq_iff_eq]
  constructor
  · intro h; exact UInt8.toNat_inj.1 (by omega)
  · rintro rfl; rfl

set_option maxHeartbeats 400000 in
theorem index_any (s t : ByteArray) (w : World) (hs : s.size ≤ 35184372088832) (ht : t.size ≤ 35184372088832) :
    Calls Tryz.prog 15 #[.string s, .string t] w fun e w' => e = .returned (.int .i64 (NU.index (L s) (L t) : Nat)) ∧ ∃ n, w' = w.drewN n := by
  go_enter Tryz.func15, Tryz.ntmps15
  go_wp2
  go_loopw [9] (fun i wr => ∃ k n : Nat, k ≤ s.size ∧ i = .int .i64 (k : Int) ∧ wr = w.drewN n ∧ Hid (NU.index (L s) (L t) = k + NU.index ((L s).drop k) (L t))) (fun i _ => s.size - (intOf i).toNat)
  case atStart => exact ⟨0, 0, by omega, rfl, rfl, by simp [Hid]⟩
  case round =>
    obtain ⟨k, n, hk, rfl, rfl, HS⟩ := hrel
    by_cases hlt : k < s.size
    · have HD := Lib.hid (drop_cons s k hlt)
      have HI : Hid (NU.index ((L s).drop k) (L t) = if NU.mem (L t) s[k] then 0 else NU.index ((L s).drop (k + 1)) (L t) + 1) := by
        rw [HD.out, NU.index_cons]; rfl
      go_wp2
      go_loopw [14] (fun j wr => ∃ i n : Nat, i ≤ t.size ∧ j = .int .i64 (i : Int) ∧ wr = w.drewN n ∧ Hid (NU.mem (L t) s[k] = NU.mem ((L t).drop i) s[k])) (fun j _ => t.size - (intOf j).toNat)
      case atStart => exact ⟨0, n, by omega, rfl, rfl, by simp [Hid]⟩
      case round =>
        obtain ⟨i, m, hi, rfl, rfl, HM⟩ := hrel
        by_cases hit : i < t.size
        · have HE : Hid (NU.mem ((L t).drop i) s[k] = (s[k] == t[i] || NU.mem ((L t).drop (i + 1)) s[k])) := by
            show _ = _
            rw [drop_cons t i hit, NU.mem_cons]
          by_cases hc : ((s[k].toNat : Int) == (t[i].toNat : Int)) = true
          · have HC := Lib.hid hc
            go_wp2
            go_quiet (fail)
            go_wp2
            go_ret
            exact ⟨ret_int (by rw [HS.out, HI.out, HM.out, HE.out, ← u8_eq, HC.out]; simp), _, World.drewN_drewN _ _ _⟩
          · have hc : ((s[k].toNat : Int) == (t[i].toNat : Int)) = false := by simpa using hc
            go_wp2
            go_quiet (fail)
            go_wp2
            go_roundw
            case rel => exact ⟨i + 1, _, by omega, by go_num, rfl, by show _ = _; rw [HM.out, HE.out, ← u8_eq, hc]; rfl⟩
            case measure => simp [intOf]; omega
        · go_wp2
          go_roundw
          case rel => exact ⟨k + 1, _, by omega, by go_num, rfl, by show _ = _; rw [HS.out, HI.out, HM.out, drop_end t i (by omega), NU.mem_nil]; simp; omega⟩
          case measure => simp [intOf]; omega
    · go_wp2
      go_ret
      exact ⟨ret_int (by rw [HS.out, drop_end s k (by omega), NU.index_nil]; omega), n, rfl⟩

theorem conv1 (c : UInt8) (w : World) :
    (convert 70 9 (.slice (some ⟨w.heap.size, 0, none⟩) 1 1)).run Tryz.prog (w.alloc (.cells #[.int .u8 (c.toNat : Int)] 5)) = .ok (.string ⟨#[c]⟩) (w.alloc (.cells #[.int .u8 (c.toNat : Int)] 5)) :=
  run_convert_bytes_back (w.alloc (.cells #[.int .u8 (c.toNat : Int)] 5)) 70 9 5 ⟨w.heap.size, 0, none⟩ 1 [c] Tryz.underlying70 Tryz.underlying5 Tryz.underlying9 (fun j hj => by
    obtain rfl : j = 0 := by simpa using hj
    exact cell_one_new _ _ _ 0 _ rfl)

set_option maxHeartbeats 400000 in
theorem has_any (s : ByteArray) (c : UInt8) (w : World) (hs : s.size ≤ 35184372088832) :
    Calls Tryz.prog 28 #[.string s, .int .u8 (c.toNat : Int)] w fun e w' => e = .returned (.bool (NU.mem (L s) c)) ∧ Fr w w' := by
  have kc := conv1 c
  have hi := NU.index_le (L s) [c]
  have HM : Hid (NU.mem (L s) c = decide (NU.index (L s) [c] < s.size)) := by
    show _ = _
    rw [NU.mem_index, show s.size = (L s).length from by simp]
  go_enter Tryz.func28, Tryz.ntmps28
  go_wp2_with (go_at_call 15; refine (index_any _ _ _ (by assumption) (by show (1 : Nat) ≤ 35184372088832; omega)).mono ?_; rintro e w' ⟨rfl, hq⟩; have hf := Fr.of_q hq; clear hq)
  go_ret
  exact ⟨ret_bool HM.out.symm, ((Fr.refl _).alloc _).trans (by assumption)⟩
end Go.Proofs.YtibcegbacnjmfaaGreatDoor
namespace Go.Proofs.YtibcegbacnjmfaaGreatDoor
set_option linter.unusedVariables false
set_option linter.unusedSimpArgs false
open Go.RowKit

set_option maxHeartbeats 400000 in
theorem unreserved_any (c : UInt8) (w : World) :
    Calls Tryz.prog 30 #[.int .u8 (c.toNat : Int)] w fun e w' => e = .returned (.bool (NU.unreserved c)) ∧ Fr w w' := by
  go_enter Tryz.func30, Tryz.ntmps30
  go_wp2_with (first
    | (go_at_call 27; refine (isDigit_any _ _).mono ?_; rintro e w' ⟨rfl, rfl⟩)
    | (go_at_call 26; refine (isAlpha_any _ _).mono ?_; rintro e w' ⟨rfl, rfl⟩)
    | (go_at_call 28; refine (has_any _ _ _ (by show (4 : Nat) ≤ 35184372088832; omega)).mono ?_; rintro e w' ⟨rfl, hf⟩))
  all_goals go_ret
  all_goals refine ⟨ret_bool ?_, by first | assumption | exact Fr.refl _⟩
  all_goals simp_all [NU.unreserved]

set_option maxHeartbeats 1000000 in
theorem chars_any (s t : ByteArray) (p : Bool) (w : World) (hs : s.size ≤ 35184372088832) (ht : t.size ≤ 35184372088832) :
    Calls Tryz.prog 18 #[.string s, .string t, .bool p] w fun e w' => e = .returned (.bool (NU.chars (L t) p (L s))) ∧ Fr w w' := by
  go_enter Tryz.func18, Tryz.ntmps18
  go_wp2
  go_loopw [7] (fun i wr => ∃ k : Nat, k ≤ s.size ∧ i = .int .i64 (k : Int) ∧ Fr w wr ∧ Hid (NU.chars (L t) p (L s) = NU.chars (L t) p ((L s).drop k))) (fun i _ => s.size - (intOf i).toNat)
  case atStart => exact ⟨0, by omega, rfl, Fr.refl _, by simp [Hid]⟩
  case round =>
    obtain ⟨k, hk, rfl, hfr, HS⟩ := hrel
    by_cases hlt : k < s.size
    · have HD := Lib.hid (drop_cons s k hlt)
      by_cases hc : ((s[k].toNat : Int) == 37) = true
      · have HC : Hid (s[k] = 37) := by
          show _ = _
          have hc' := hc
          simp only [beq_iff_eq] at hc'
          exact UInt8.toNat_inj.1 (by show s[k].toNat = 37; omega)
        cases p
        · have HI : Hid (NU.chars (L t) false (L s) = false) := by show _ = _; rw [HS.out, HD.out, HC.out, NU.chars_false]
          clear HS
          go_wp2_with fail
          go_ret
          exact ⟨ret_bool HI.out.symm, hfr⟩
        · by_cases h2 : k + 2 < s.size
          · have HI : Hid (NU.chars (L t) true (L s) = (decide (0 ≤ NU.hexv s[k+1]) && decide (0 ≤ NU.hexv s[k+2]) && NU.chars (L t) true ((L s).drop (k + 3)))) := by
              show _ = _; rw [HS.out, HD.out, HC.out, drop_cons s (k+1) (by omega), drop_cons s (k+2) (by omega), NU.chars_pct, Bool.true_and]
            have g1 := NU.hexv_lo s[k+1]
            have g2 := NU.hexv_lo s[k+2]
            have g3 := NU.hexv_hi s[k+1]
            have g4 := NU.hexv_hi s[k+2]
            clear HS
            go_wp2_with (go_at_call 29; refine (hex_any _ _).mono ?_; rintro e w' ⟨rfl, rfl⟩)
            all_goals first
              | (go_ret
                 refine ⟨ret_bool ?_, by assumption⟩
                 rw [HI.out]
                 first
                   | (have h : NU.hexv s[k+1] < 0 := by omega
                      simp [Int.not_le.2 h]; done)
                   | (have h : NU.hexv s[k+2] < 0 := by omega
                      simp [Int.not_le.2 h]; done))
              | (go_roundw
                 case rel =>
                   refine ⟨k + 3, by omega, by go_num, by assumption, ?_⟩
                   show _ = _
                   have h : 0 ≤ NU.hexv s[k+1] := by omega
                   have h' : 0 ≤ NU.hexv s[k+2] := by omega
                   rw [HI.out]; simp [h, h']
                 case measure => simp [intOf]; omega)
          · have HI : Hid (NU.chars (L t) true (L s) = false) := by show _ = _; rw [HS.out, HD.out, HC.out, NU.chars_short _ _ _ (by simp; omega)]
            clear HS
            go_wp2_with fail
            go_ret
            exact ⟨ret_bool HI.out.symm, hfr⟩
      · have hc : ((s[k].toNat : Int) == 37) = false := by simpa using hc
        have hc' : (s[k] == 37) = false := by rw [← u8_eq]; simpa using hc
        have HI : Hid (NU.chars (L t) p (L s) = ((NU.unreserved s[k] || NU.mem [33, 36, 38, 39, 40, 41, 42, 43, 44, 59, 61] s[k] || NU.mem (L t) s[k]) && NU.chars (L t) p ((L s).drop (k+1)))) := by
          show _ = _; rw [HS.out, HD.out, NU.chars_other _ _ _ _ hc']
        clear HS hc'
        go_wp2_with (first
          | (go_at_call 30; refine (unreserved_any _ _).mono ?_; rintro e w1 ⟨rfl, hf1⟩)
          | (go_at_call 28; refine (has_any _ _ _ (by first | assumption | (show (11 : Nat) ≤ 35184372088832; omega))).mono ?_; rintro e w1 ⟨rfl, hf1⟩))
        all_goals first
          | (go_ret
             refine ⟨ret_bool ?_, by repeat (first | exact hfr | refine Fr.trans ?_ (by assumption))⟩
             rw [HI.out]
             simp_all; done)
          | (go_roundw
             case rel =>
               refine ⟨k + 1, by omega, by go_num, by repeat (first | exact hfr | refine Fr.trans ?_ (by assumption)), ?_⟩
               show _ = _
               rw [HI.out]
               simp_all
             case measure => simp [intOf]; omega)
    · go_wp2
      go_ret
      exact ⟨ret_bool (by rw [HS.out, drop_end s k (by omega), NU.chars_nil]), hfr⟩
end Go.Proofs.YtibcegbacnjmfaaGreatDoor
namespace Go.Proofs.YtibcegbacnjmfaaGreatDoor
set_option linter.unusedVariables false
set_option linter.unusedSimpArgs false
open Go.RowKit

def mk (l : List UInt8) : ByteArray := ⟨l.toArray⟩
theorem L_mk (l : List UInt8) : L (mk l) = l := rfl
theorem mk_L (s : ByteArray) : mk (L s) = s := Lib.mk_data s
theorem mk_size (l : List UInt8) : (mk l).size = l.length := by simp [mk, ByteArray.size]
theorem L_length (s : ByteArray) : (L s).length = s.size := by simp
theorem ext_mk (s : ByteArray) (a b : Nat) : s.extract a b = mk (((L s).drop a).take (b - a)) := Lib.extract_eq s a b
theorem ext_to (s : ByteArray) (b : Nat) : s.extract 0 b = mk ((L s).take b) := by rw [ext_mk]; simp
theorem ext_from (s : ByteArray) (a : Nat) : s.extract a s.size = mk ((L s).drop a) := by
  rw [ext_mk, List.take_of_length_le]; simp
theorem eq_L {s t : ByteArray} (h : L s = L t) : s = t := by rw [← mk_L s, ← mk_L t, h]
theorem beq_L (s t : ByteArray) : (s.toList == t.toList) = (L s == L t) := by rw [Lib.toList_data, Lib.toList_data]
theorem ret_str {a b : ByteArray} (h : a = b) : Ending.returned (.string a) = .returned (.string b) := by rw [h]
theorem ret_ss {a b c d : ByteArray} (h : a = c) (h' : b = d) : Ending.returned (.tuple #[.string a, .string b]) = .returned (.tuple #[.string c, .string d]) := by rw [h, h']
theorem ret_sb {a b : ByteArray} {p q : Bool} (h : a = b) (h' : p = q) : Ending.returned (.tuple #[.string a, .bool p]) = .returned (.tuple #[.string b, .bool q]) := by rw [h, h']
theorem ret_bb {a b c d : Bool} (h : a = c) (h' : b = d) : Ending.returned (.tuple #[.bool a, .bool b]) = .returned (.tuple #[.bool c, .bool d]) := by rw [h, h']
theorem ret_ssb {a b c d : ByteArray} {p q : Bool} (h : a = c) (h' : b = d) (h2 : p = q) : Ending.returned (.tuple #[.string a, .string b, .bool p]) = .returned (.tuple #[.string c, .string d, .bool q]) := by rw [h, h', h2]

theorem eq_lits (t : ByteArray) (l : List UInt8) (h : L t = l) : (t.toList == l) = true := by rw [Lib.toList_data]; simpa using h
theorem ne_lits (t : ByteArray) (l : List UInt8) (h : ¬ L t = l) : (t.toList == l) = false := by rw [Lib.toList_data]; simpa using h
theorem L_app (a b : ByteArray) : L (a ++ b) = L a ++ L b := by simp [L]
theorem L_empty {s : ByteArray} (h : L s = []) : s.toList = [] := by rw [Lib.toList_data]; exact h
theorem L_nempty {s : ByteArray} (h : ¬ L s = []) : s.toList.isEmpty = false := by rw [Lib.toList_data]; simpa using h

set_option maxHeartbeats 400000 in
theorem zzIndex_any (s t : ByteArray) (w : World) (hs : s.size ≤ 35184372088832) (ht : t.size ≤ 35184372088832) :
    Calls Tryz.prog 51 #[.string s, .string t] w fun e w' => e = .returned (.int .i64 (NU.fsub (L t) (L s))) ∧ w = w' := by
  go_enter Tryz.func51, Tryz.ntmps51
  go_wp2
  go_loop [5] (fun i => ∃ k : Nat, k ≤ s.size ∧ i = .int .i64 (k : Int) ∧ Hid (NU.fsub (L t) (L s) = if NU.fsub (L t) ((L s).drop k) < 0 then -1 else NU.fsub (L t) ((L s).drop k) + k)) (fun i => s.size + 1 - (intOf i).toNat)
  case atStart => exact ⟨0, by omega, rfl, by
    show _ = _
    have := NU.fsub_lo (L t) (L s)
    simp only [List.drop_zero]; split <;> omega⟩
  case round =>
    obtain ⟨k, hk, rfl, HS⟩ := hrel
    by_cases hlt : k + t.size ≤ s.size
    · by_cases hp : ((L t).isPrefixOf ((L s).drop k)) = true
      · have HI : Hid (NU.fsub (L t) ((L s).drop k) = 0) := by
          show _ = _
          match hd : (L s).drop k, hp with
          | [], hp => rw [NU.fsub]; cases hL : L t with
            | nil => rfl
            | cons => rw [hL] at hp; simp at hp
          | c :: r, hp => rw [NU.fsub, if_pos hp]
        have HX : Hid (((s.extract k (k + t.size)).toList == t.toList) = true) := by
          show _ = _
          rw [beq_L, ext_mk, L_mk]
          have := List.prefix_iff_eq_take.1 (List.isPrefixOf_iff_prefix.1 hp)
          rw [L_length] at this
          rw [show k + t.size - k = t.size by omega, ← this]; simp
        clear hp
        have hx := HX.out
        go_wp2
        go_ret
        exact ⟨ret_int (by rw [HS.out, HI.out]; simp), rfl⟩
      · have HX : Hid (((s.extract k (k + t.size)).toList == t.toList) = false) := by
          show _ = _
          rw [beq_L, ext_mk, L_mk, show k + t.size - k = t.size by omega]
          apply Bool.eq_false_iff.2
          intro h
          apply hp
          rw [List.isPrefixOf_iff_prefix, List.prefix_iff_eq_take, L_length]
          simpa using (beq_iff_eq.1 h).symm
        by_cases hls : k < s.size
        · have HI : Hid (NU.fsub (L t) ((L s).drop k) = if NU.fsub (L t) ((L s).drop (k + 1)) < 0 then -1 else NU.fsub (L t) ((L s).drop (k + 1)) + 1) := by
            show _ = _
            rw [drop_cons s k hls] at hp ⊢
            rw [NU.fsub, if_neg hp]
          clear hp
          have hx := HX.out
          go_wp2
          go_round
          case rel => exact ⟨k + 1, by omega, by go_num, by
            show _ = _
            have := NU.fsub_lo (L t) ((L s).drop (k + 1))
            rw [HS.out, HI.out]; (repeat' split) <;> omega⟩
          case measure => simp [intOf]; omega
        · exfalso; apply hp
          have : (L t) = [] := List.eq_nil_of_length_eq_zero (by rw [L_length]; omega)
          rw [this]; simp
    · have HI : Hid (NU.fsub (L t) ((L s).drop k) = -1) := by
        show _ = _
        rcases NU.fsub_hi (L t) ((L s).drop k) with h | h
        · have := NU.fsub_lo (L t) ((L s).drop k)
          simp only [List.length_drop, L_length] at h; omega
        · exact h
      go_wp2
      go_ret
      exact ⟨ret_int (by rw [HS.out, HI.out]; rfl), rfl⟩

set_option maxHeartbeats 400000 in
theorem zzCut_any (s t : ByteArray) (w : World) (hs : s.size ≤ 35184372088832) (ht : t.size ≤ 35184372088832) :
    Calls Tryz.prog 32 #[.string s, .string t] w fun e w' => e = .returned (.tuple #[.string (mk (NU.cutB (L t) (L s))), .string (mk (NU.cutA (L t) (L s))), .bool (NU.cutF (L t) (L s))]) ∧ ∃ n, w' = w.drewN n := by
  have h1 := NU.fsub_lo (L t) (L s)
  have h2 := NU.fsub_hi (L t) (L s)
  simp only [L_length] at h2
  obtain ⟨i, hi⟩ : ∃ i, i = NU.fsub (L t) (L s) := ⟨_, rfl⟩
  by_cases hn : i < 0
  · rw [← hi] at h1 h2
    have HI := Lib.hid hi
    clear hi
    go_enter Tryz.func32, Tryz.ntmps32
    go_wp2_with (go_at_call 51; refine (zzIndex_any _ _ _ hs ht).mono ?_; rintro e w' ⟨rfl, rfl⟩; rw [← HI.out])
    go_ret3
    exact ⟨ret_ssb (by rw [NU.cutB, ← HI.out, if_pos hn, mk_L]) (by rw [NU.cutA, ← HI.out, if_pos hn]; rfl) (by rw [NU.cutF, ← HI.out]; simp [hn]), 0, rfl⟩
  · rw [← hi] at h1 h2
    have HI := Lib.hid hi
    clear hi
    obtain ⟨j, rfl⟩ := Int.eq_ofNat_of_zero_le (Int.not_lt.1 hn)
    have h3 : j + t.size ≤ s.size := by omega
    clear h1 h2 hn
    go_enter Tryz.func32, Tryz.ntmps32
    go_wp2_with (go_at_call 51; refine (zzIndex_any _ _ _ hs ht).mono ?_; rintro e w' ⟨rfl, rfl⟩; rw [← HI.out])
    go_quiet (fail)
    go_wp2
    go_ret3
    exact ⟨ret_ssb (by rw [NU.cutB, ← HI.out, if_neg (by omega), ext_to]; rfl) (by rw [NU.cutA, ← HI.out, if_neg (by omega), ext_from, L_length]; rfl) (by rw [NU.cutF, ← HI.out]; simp), _, rfl⟩
end Go.Proofs.YtibcegbacnjmfaaGreatDoor
