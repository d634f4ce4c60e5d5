import Derived.Test.YtibcegbacnjmfaaDoorW2
namespace Go.Proofs.YtibcegbacnjmfaaDoor
set_option linter.unusedVariables false
set_option linter.unusedSimpArgs false
open Go.RowKit

def mk (l : List UInt8) : ByteArray := ⟨l.toArray⟩
theorem L_mk (l : List UInt8) : L (mk l) = l := rfl
theorem mk_L (s : ByteArray) : mk (L s) = s := Lib.mk_data s
theorem mk_size (l : List UInt8) : (mk l).size = l.length := by simp [mk, ByteArray.size]
theorem L_length (s : ByteArray) : (L s).length = s.size := by simp
theorem ext_mk (s : ByteArray) (a b : Nat) : s.extract a b = mk (((L s).drop a).take (b - a)) := Lib.extract_eq s a b
theorem ext_to (s : ByteArray) (b : Nat) : s.extract 0 b = mk ((L s).take b) := by rw [ext_mk]; simp
theorem ext_from (s : ByteArray) (a : Nat) : s.extract a s.size = mk ((L s).drop a) := by
  rw [ext_mk, List.take_of_length_le]; simp
theorem eq_L {s t : ByteArray} (h : L s = L t) : s = t := by rw [← mk_L s, ← mk_L t, h]
theorem beq_L (s t : ByteArray) : (s.toList == t.toList) = (L s == L t) := by rw [Lib.toList_data, Lib.toList_data]
theorem ret_str {a b : ByteArray} (h : a = b) : Ending.returned (.string a) = .returned (.string b) := by rw [h]
theorem ret_ss {a b c d : ByteArray} (h : a = c) (h' : b = d) : Ending.returned (.tuple #[.string a, .string b]) = .returned (.tuple #[.string c, .string d]) := by rw [h, h']
theorem ret_sb {a b : ByteArray} {p q : Bool} (h : a = b) (h' : p = q) : Ending.returned (.tuple #[.string a, .bool p]) = .returned (.tuple #[.string b, .bool q]) := by rw [h, h']
theorem ret_bb {a b c d : Bool} (h : a = c) (h' : b = d) : Ending.returned (.tuple #[.bool a, .bool b]) = .returned (.tuple #[.bool c, .bool d]) := by rw [h, h']
theorem ret_ssb {a b c d : ByteArray} {p q : Bool} (h : a = c) (h' : b = d) (h2 : p = q) : Ending.returned (.tuple #[.string a, .string b, .bool p]) = .returned (.tuple #[.string c, .string d, .bool q]) := by rw [h, h', h2]

theorem eq_lits (t : ByteArray) (l : List UInt8) (h : L t = l) : (t.toList == l) = true := by rw [Lib.toList_data]; simpa using h
theorem ne_lits (t : ByteArray) (l : List UInt8) (h : ¬ L t = l) : (t.toList == l) = false := by rw [Lib.toList_data]; simpa using h
theorem L_app (a b : ByteArray) : L (a ++ b) = L a ++ L b := by simp [L]
theorem L_empty {s : ByteArray} (h : L s = []) : s.toList = [] := by rw [Lib.toList_data]; exact h
theorem L_nempty {s : ByteArray} (h : ¬ L s = []) : s.toList.isEmpty = false := by rw [Lib.toList_data]; simpa using h

set_option maxHeartbeats 400000 in
theorem zzIndex_any (s t : ByteArray) (w : World) (hs : s.size ≤ 35184372088832) (ht : t.size ≤ 35184372088832) :
    Calls Tryd.prog 48 #[.string s, .string t] w fun e w' => e = .returned (.int .i64 (NU.fsub (L t) (L s))) ∧ w = w' := by
  go_enter Tryd.func48, Tryd.ntmps48
  go_wp2
  go_loop [5] (fun i => ∃ k : Nat, k ≤ s.size ∧ i = .int .i64 (k : Int) ∧ Hid (NU.fsub (L t) (L s) = if NU.fsub (L t) ((L s).drop k) < 0 then -1 else NU.fsub (L t) ((L s).drop k) + k)) (fun i => s.size + 1 - (intOf i).toNat)
  case atStart => exact ⟨0, by omega, rfl, by
    show _ = _
    have := NU.fsub_lo (L t) (L s)
    simp only [List.drop_zero]; split <;> omega⟩
  case round =>
    obtain ⟨k, hk, rfl, HS⟩ := hrel
    by_cases hlt : k + t.size ≤ s.size
    · by_cases hp : ((L t).isPrefixOf ((L s).drop k)) = true
      · have HI : Hid (NU.fsub (L t) ((L s).drop k) = 0) := by
          show _ = _
          match hd : (L s).drop k, hp with
          | [], hp => rw [NU.fsub]; cases hL : L t with
            | nil => rfl
            | cons => rw [hL] at hp; simp at hp
          | c :: r, hp => rw [NU.fsub, if_pos hp]
        have HX : Hid (((s.extract k (k + t.size)).toList == t.toList) = true) := by
          show _ = _
          rw [beq_L, ext_mk, L_mk]
          have := List.prefix_iff_eq_take.1 (List.isPrefixOf_iff_prefix.1 hp)
          rw [L_length] at this
          rw [show k + t.size - k = t.size by omega, ← this]; simp
        clear hp
        have hx := HX.out
        go_wp2
        go_ret
        exact ⟨ret_int (by rw [HS.out, HI.out]; simp), rfl⟩
      · have HX : Hid (((s.extract k (k + t.size)).toList == t.toList) = false) := by
          show _ = _
          rw [beq_L, ext_mk, L_mk, show k + t.size - k = t.size by omega]
          apply Bool.eq_false_iff.2
          intro h
          apply hp
          rw [List.isPrefixOf_iff_prefix, List.prefix_iff_eq_take, L_length]
          simpa using (beq_iff_eq.1 h).symm
        by_cases hls : k < s.size
        · have HI : Hid (NU.fsub (L t) ((L s).drop k) = if NU.fsub (L t) ((L s).drop (k + 1)) < 0 then -1 else NU.fsub (L t) ((L s).drop (k + 1)) + 1) := by
            show _ = _
            rw [drop_cons s k hls] at hp ⊢
            rw [NU.fsub, if_neg hp]
          clear hp
          have hx := HX.out
          go_wp2
          go_round
          case rel => exact ⟨k + 1, by omega, by go_num, by
            show _ = _
            have := NU.fsub_lo (L t) ((L s).drop (k + 1))
            rw [HS.out, HI.out]; (repeat' split) <;> omega⟩
          case measure => simp [intOf]; omega
        · exfalso; apply hp
          have : (L t) = [] := List.eq_nil_of_length_eq_zero (by rw [L_length]; omega)
          rw [this]; simp
    · have HI : Hid (NU.fsub (L t) ((L s).drop k) = -1) := by
        show _ = _
        rcases NU.fsub_hi (L t) ((L s).drop k) with h | h
        · have := NU.fsub_lo (L t) ((L s).drop k)
          simp only [List.length_drop, L_length] at h; omega
        · exact h
      go_wp2
      go_ret
      exact ⟨ret_int (by rw [HS.out, HI.out]; rfl), rfl⟩

set_option maxHeartbeats 400000 in
theorem zzCut_any (s t : ByteArray) (w : World) (hs : s.size ≤ 35184372088832) (ht : t.size ≤ 35184372088832) :
    Calls Tryd.prog 30 #[.string s, .string t] w fun e w' => e = .returned (.tuple #[.string (mk (NU.cutB (L t) (L s))), .string (mk (NU.cutA (L t) (L s))), .bool (NU.cutF (L t) (L s))]) ∧ ∃ n, w' = w.drewN n := by
  have h1 := NU.fsub_lo (L t) (L s)
  have h2 := NU.fsub_hi (L t) (L s)
  simp only [L_length] at h2
  obtain ⟨i, hi⟩ : ∃ i, i = NU.fsub (L t) (L s) := ⟨_, rfl⟩
  by_cases hn : i < 0
  · rw [← hi] at h1 h2
    have HI := Lib.hid hi
    clear hi
    go_enter Tryd.func30, Tryd.ntmps30
    go_wp2_with (go_at_call 48; refine (zzIndex_any _ _ _ hs ht).mono ?_; rintro e w' ⟨rfl, rfl⟩; rw [← HI.out])
    go_ret3
    exact ⟨ret_ssb (by rw [NU.cutB, ← HI.out, if_pos hn, mk_L]) (by rw [NU.cutA, ← HI.out, if_pos hn]; rfl) (by rw [NU.cutF, ← HI.out]; simp [hn]), 0, rfl⟩
  · rw [← hi] at h1 h2
    have HI := Lib.hid hi
    clear hi
    obtain ⟨j, rfl⟩ := Int.eq_ofNat_of_zero_le (Int.not_lt.1 hn)
    have h3 : j + t.size ≤ s.size := by omega
    clear h1 h2 hn
    go_enter Tryd.func30, Tryd.ntmps30
    go_wp2_with (go_at_call 48; refine (zzIndex_any _ _ _ hs ht).mono ?_; rintro e w' ⟨rfl, rfl⟩; rw [← HI.out])
    go_quiet (fail)
    go_wp2
    go_ret3
    exact ⟨ret_ssb (by rw [NU.cutB, ← HI.out, if_neg (by omega), ext_to]; rfl) (by rw [NU.cutA, ← HI.out, if_neg (by omega), ext_from, L_length]; rfl) (by rw [NU.cutF, ← HI.out]; simp), _, rfl⟩
end Go.Proofs.YtibcegbacnjmfaaDoor
