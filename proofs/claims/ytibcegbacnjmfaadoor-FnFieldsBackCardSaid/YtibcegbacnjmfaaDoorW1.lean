import Derived.Test.YtibcegbacnjmfaaDoorChecked
import Derived.Test.YtibcegbacnjmfaaDoorP
import Derived.WalkKit
import Derived.WalkSpells
import Derived.WalkLawsBesides
import Derived.Lib.Hide
import Derived.Laws.IdiomStrings
import Derived.Lib.Strings
import Derived.Deep.QuietTactic
import Derived.BigQuiet
namespace Go.Proofs.YtibcegbacnjmfaaDoor
set_option linter.unusedVariables false
set_option linter.unusedSimpArgs false
open Go.RowKit

theorem ret_int {k : IntKind} {a b : Int} (h : a = b) : Ending.returned (.int k a) = .returned (.int k b) := by rw [h]
theorem ret_bool {a b : Bool} (h : a = b) : Ending.returned (.bool a) = .returned (.bool b) := by rw [h]
abbrev L (s : ByteArray) : List UInt8 := s.data.toList
theorem u8_lt (c : UInt8) : (c.toNat : Int) ≤ 255 := by have := c.toNat_lt; omega
theorem u8_lt' (c : UInt8) : c.toNat ≤ 255 := by have := c.toNat_lt; omega
theorem drop_cons (s : ByteArray) (k : Nat) (h : k < s.size) : (L s).drop k = s[k] :: (L s).drop (k + 1) :=
  List.drop_eq_getElem_cons (by simpa using h)
theorem drop_end (s : ByteArray) (k : Nat) (h : s.size ≤ k) : (L s).drop k = [] := List.drop_eq_nil_of_le (by simpa using h)

/-- Nothing that was there has turned. -/
def Fr (w w' : World) : Prop := Below w.heap.size w w'
theorem Fr.refl (w : World) : Fr w w := Below.refl _ _
theorem Fr.size {a b : World} (h : Fr a b) : a.heap.size ≤ b.heap.size := Below.size h
theorem Fr.trans {a b c : World} (h : Fr a b) (k : Fr b c) : Fr a c := Below.trans h (Below.mono k h.size)
theorem Fr.drew {a b : World} (h : Fr a b) : Fr a b.drew := Below.drew h
theorem Fr.drewN {a b : World} (h : Fr a b) (n : Nat) : Fr a (b.drewN n) := by
  have h' : Below a.heap.size a b := h
  exact ⟨h'.os, h'.tape, h'.output, h'.size, h'.block⟩
theorem Fr.alloc {a b : World} (h : Fr a b) (o : Obj) : Fr a (b.alloc o) := Below.alloc h h.size o
theorem Fr.setCell {a b : World} (h : Fr a b) {p : Addr} (hp : a.heap.size ≤ p.block) (u : Value) : Fr a (b.setCell p u) := Below.setCell h hp u
theorem Fr.of_q {a b : World} (h : ∃ n, b = a.drewN n) : Fr a b := by obtain ⟨n, rfl⟩ := h; exact (Fr.refl a).drewN n

set_option maxHeartbeats 400000 in
theorem isDigit_any (c : UInt8) (w : World) :
    Calls Tryd.prog 28 #[.int .u8 (c.toNat : Int)] w fun e w' => e = .returned (.bool (NU.isDigit c)) ∧ w = w' := by
  have h1 := u8_lt c
  go_enter Tryd.func28, Tryd.ntmps28
  go_wp2
  all_goals go_ret
  all_goals exact ⟨ret_bool (by rw [Bool.eq_iff_iff]; simp [NU.isDigit]; omega), rfl⟩

set_option maxHeartbeats 400000 in
theorem isAlpha_any (c : UInt8) (w : World) :
    Calls Tryd.prog 27 #[.int .u8 (c.toNat : Int)] w fun e w' => e = .returned (.bool (NU.isAlpha c)) ∧ w = w' := by
  have h1 := u8_lt c
  go_enter Tryd.func27, Tryd.ntmps27
  go_wp2
  all_goals go_ret
  all_goals exact ⟨ret_bool (by rw [Bool.eq_iff_iff]; simp [NU.isAlpha]; omega), rfl⟩

set_option maxHeartbeats 400000 in
theorem hex_any (c : UInt8) (w : World) :
    Calls Tryd.prog 18 #[.int .u8 (c.toNat : Int)] w fun e w' => e = .returned (.int .i64 (NU.hexv c)) ∧ w = w' := by
  have h1 := u8_lt c
  have h0 : 0 ≤ (c.toNat : Int) := by omega
  by_cases hd : NU.isDigit c = true
  · have h2 : 48 ≤ (c.toNat : Int) ∧ (c.toNat : Int) ≤ 57 := by simp [NU.isDigit] at hd; omega
    obtain ⟨h2, h3⟩ := h2
    go_enter Tryd.func18, Tryd.ntmps18
    go_wp2_with (go_at_call 28; refine (isDigit_any _ _).mono ?_; rintro e w' ⟨rfl, rfl⟩)
    go_ret
    exact ⟨ret_int (by simp [NU.hexv, hd]), rfl⟩
  · have hd : NU.isDigit c = false := by simpa using hd
    go_enter Tryd.func18, Tryd.ntmps18
    go_wp2_with (go_at_call 28; refine (isDigit_any _ _).mono ?_; rintro e w' ⟨rfl, rfl⟩)
    all_goals go_ret
    all_goals refine ⟨ret_int ?_, rfl⟩
    all_goals simp only [NU.hexv, hd]
    all_goals (repeat' split) <;> first | omega | simp_all
    all_goals omega

set_option maxHeartbeats 400000 in
theorem begins_any (s t : ByteArray) (w : World) (hs : s.size ≤ 35184372088832) (ht : t.size ≤ 35184372088832) :
    Calls Tryd.prog 22 #[.string s, .string t] w fun e w' => e = .returned (.bool (NU.begins (L s) (L t))) ∧ w = w' := by
  by_cases h : t.size ≤ s.size
  all_goals go_enter Tryd.func22, Tryd.ntmps22
  all_goals go_wp2
  all_goals go_ret
  · exact ⟨ret_bool (by rw [NU.begins, Lib.toList_data, Lib.toList_data, Lib.extract_data]; have := Lib.hasPrefix_of_take (L s) (L t); simpa [Lib.hasPrefix, h] using this), rfl⟩
  · exact ⟨ret_bool (by have := Lib.hasPrefix_of_take (L s) (L t); simpa [Lib.hasPrefix, h, NU.begins] using this), rfl⟩

theorem mem_one (c d : UInt8) : NU.mem [c] d = (d == c) := by simp [NU.mem]
theorem u8_eq (c d : UInt8) : ((c.toNat : Int) == (d.toNat : Int)) = (c == d) := by
  rw [Bool.eq_iff_iff]; simp only [beq_iff_eq]
  constructor
  · intro h; exact UInt8.toNat_inj.1 (by omega)
  · rintro rfl; rfl

set_option maxHeartbeats 400000 in
theorem index_any (s t : ByteArray) (w : World) (hs : s.size ≤ 35184372088832) (ht : t.size ≤ 35184372088832) :
    Calls Tryd.prog 21 #[.string s, .string t] w fun e w' => e = .returned (.int .i64 (NU.index (L s) (L t) : Nat)) ∧ ∃ n, w' = w.drewN n := by
  go_enter Tryd.func21, Tryd.ntmps21
  go_wp2
  go_loopw [9] (fun i wr => ∃ k n : Nat, k ≤ s.size ∧ i = .int .i64 (k : Int) ∧ wr = w.drewN n ∧ Hid (NU.index (L s) (L t) = k + NU.index ((L s).drop k) (L t))) (fun i _ => s.size - (intOf i).toNat)
  case atStart => exact ⟨0, 0, by omega, rfl, rfl, by simp [Hid]⟩
  case round =>
    obtain ⟨k, n, hk, rfl, rfl, HS⟩ := hrel
    by_cases hlt : k < s.size
    · have HD := Lib.hid (drop_cons s k hlt)
      have HI : Hid (NU.index ((L s).drop k) (L t) = if NU.mem (L t) s[k] then 0 else NU.index ((L s).drop (k + 1)) (L t) + 1) := by
        rw [HD.out, NU.index_cons]; rfl
      go_wp2
      go_loopw [14] (fun j wr => ∃ i n : Nat, i ≤ t.size ∧ j = .int .i64 (i : Int) ∧ wr = w.drewN n ∧ Hid (NU.mem (L t) s[k] = NU.mem ((L t).drop i) s[k])) (fun j _ => t.size - (intOf j).toNat)
      case atStart => exact ⟨0, n, by omega, rfl, rfl, by simp [Hid]⟩
      case round =>
        obtain ⟨i, m, hi, rfl, rfl, HM⟩ := hrel
        by_cases hit : i < t.size
        · have HE : Hid (NU.mem ((L t).drop i) s[k] = (s[k] == t[i] || NU.mem ((L t).drop (i + 1)) s[k])) := by
            show _ = _
            rw [drop_cons t i hit, NU.mem_cons]
          by_cases hc : ((s[k].toNat : Int) == (t[i].toNat : Int)) = true
          · have HC := Lib.hid hc
            go_wp2
            go_quiet (fail)
            go_wp2
            go_ret
            exact ⟨ret_int (by rw [HS.out, HI.out, HM.out, HE.out, ← u8_eq, HC.out]; simp), _, World.drewN_drewN _ _ _⟩
          · have hc : ((s[k].toNat : Int) == (t[i].toNat : Int)) = false := by simpa using hc
            go_wp2
            go_quiet (fail)
            go_wp2
            go_roundw
            case rel => exact ⟨i + 1, _, by omega, by go_num, rfl, by show _ = _; rw [HM.out, HE.out, ← u8_eq, hc]; rfl⟩
            case measure => simp [intOf]; omega
        · go_wp2
          go_roundw
          case rel => exact ⟨k + 1, _, by omega, by go_num, rfl, by show _ = _; rw [HS.out, HI.out, HM.out, drop_end t i (by omega), NU.mem_nil]; simp; omega⟩
          case measure => simp [intOf]; omega
    · go_wp2
      go_ret
      exact ⟨ret_int (by rw [HS.out, drop_end s k (by omega), NU.index_nil]; omega), n, rfl⟩

theorem conv1 (c : UInt8) (w : World) :
    (convert 34 9 (.slice (some ⟨w.heap.size, 0, none⟩) 1 1)).run Tryd.prog (w.alloc (.cells #[.int .u8 (c.toNat : Int)] 5)) = .ok (.string ⟨#[c]⟩) (w.alloc (.cells #[.int .u8 (c.toNat : Int)] 5)) :=
  run_convert_bytes_back (w.alloc (.cells #[.int .u8 (c.toNat : Int)] 5)) 34 9 5 ⟨w.heap.size, 0, none⟩ 1 [c] Tryd.underlying34 Tryd.underlying5 Tryd.underlying9 (fun j hj => by
    obtain rfl : j = 0 := by simpa using hj
    exact cell_one_new _ _ _ 0 _ rfl)

set_option maxHeartbeats 400000 in
theorem has_any (s : ByteArray) (c : UInt8) (w : World) (hs : s.size ≤ 35184372088832) :
    Calls Tryd.prog 29 #[.string s, .int .u8 (c.toNat : Int)] w fun e w' => e = .returned (.bool (NU.mem (L s) c)) ∧ Fr w w' := by
  have kc := conv1 c
  have hi := NU.index_le (L s) [c]
  have HM : Hid (NU.mem (L s) c = decide (NU.index (L s) [c] < s.size)) := by
    show _ = _
    rw [NU.mem_index, show s.size = (L s).length from by simp]
  go_enter Tryd.func29, Tryd.ntmps29
  go_wp2_with (go_at_call 21; refine (index_any _ _ _ (by assumption) (by show (1 : Nat) ≤ 35184372088832; omega)).mono ?_; rintro e w' ⟨rfl, hq⟩; have hf := Fr.of_q hq; clear hq)
  go_ret
  exact ⟨ret_bool HM.out.symm, ((Fr.refl _).alloc _).trans (by assumption)⟩
end Go.Proofs.YtibcegbacnjmfaaDoor
