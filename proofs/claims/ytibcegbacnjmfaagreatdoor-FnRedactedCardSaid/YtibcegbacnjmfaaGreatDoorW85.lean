import Derived.Test.YtibcegbacnjmfaaGreatDoorW84
namespace Go.Proofs.YtibcegbacnjmfaaGreatDoor
set_option linter.unusedVariables false
set_option linter.unusedSimpArgs false
open Go.RowKit

section
variable {ops : Array Oper} {rest : List Oper} {o : Oper} {a : Act} {w : World} {Q : Exit → Act → World → Prop}
/-- A URL is loaded whole. -/
theorem wpList_load_u (hgd : o.guard = none) (x : Operand) (ho : o.op = .load 64 x) (g : Nat) (hx : a.eval x = .pointer (some ⟨g, 0, none⟩)) (t : TypeId) (cs : Array Value) (hb : Hid (Blk w g t cs)) (hs : cs.size = 11)
    (h : wpList Tryz.prog ops Q rest (a.put o.dst (.agg cs)) w) : wpList Tryz.prog ops Q (o :: rest) a w :=
  wpList_load_row hgd _ x ho g hx t cs (0, 0) _ hb.out Tryz.underlying64 rfl (by rw [url_info, hs]) h
end
def xxxxx : ByteArray := ⟨#[120, 120, 120, 120, 120]⟩
/-- A password is replaced. -/
def redU : Option (ByteArray × ByteArray × Bool) → Option (ByteArray × ByteArray × Bool)
  | some (n, _, true) => some (n, xxxxx, true)
  | u => u
theorem redU_sz (us : Option (ByteArray × ByteArray × Bool)) (h : UserSz us) : UserSz (redU us) := by
  match us, h with
  | none, h => exact h
  | some (n, p, false), h => exact h
  | some (n, p, true), h =>
    intro n' p' b' e
    cases e
    exact ⟨(h n p true rfl).1, by show (5 : Nat) ≤ _; omega⟩
set_option maxHeartbeats 1000000 in
theorem userPassword_any (n p : ByteArray) (w : World) :
    Calls Tryz.prog 39 #[.string n, .string p] w fun e w' => e = .returned (.pointer (some ⟨w.heap.size, 0, none⟩)) ∧ w' = w.alloc (.cells #[.string n, .string p, .bool true] 89) := by
  go_enter Tryz.func39, Tryz.ntmps39
  go_wp2
  go_ret
  exact ⟨rfl, rfl⟩
theorem red_url {W : World} {b k : Nat} {sc ho pa fr rq n p : ByteArray} {fq : Bool} (h : Blk W b 64 (urlA (plainR sc (some (n, p, true)) ho pa fr rq fq) (.pointer (some ⟨k, 0, none⟩)))) :
    UrlIs ((W.alloc (.cells #[.string n, .string ⟨#[120, 120, 120, 120, 120]⟩, .bool true] 89)).setCell ⟨b, 2, none⟩ (.pointer (some ⟨W.heap.size, 0, none⟩))) b (plainR sc (redU (some (n, p, true))) ho pa fr rq fq) :=
  ⟨.pointer (some ⟨W.heap.size, 0, none⟩), ⟨W.heap.size, rfl, (Blk.new _ _ _).far (by have := h.lt; show W.heap.size ≠ b; omega) _⟩, (h.alloc _).set_ 2 _⟩
set_option maxRecDepth 100000 in
set_option maxHeartbeats 8000000 in
theorem urlRedacted_any (sc ho pa fr rq : ByteArray) (us : Option (ByteArray × ByteArray × Bool)) (fq : Bool) (hsc : ¬ L sc = []) (hho : ¬ L ho = []) (hpa : L pa = [] ∨ ∃ r, L pa = 47 :: r)
    (z1 : sc.size ≤ 2147483648) (z2 : ho.size ≤ 2147483648) (z3 : pa.size ≤ 2147483648) (z4 : fr.size ≤ 2147483648) (z5 : rq.size ≤ 2147483648) (z6 : UserSz us)
    (g : Nat) (w : World) (h : Hid (UrlIs w g (plainR sc us ho pa fr rq fq))) (ht : Hid (Tab w)) :
    Calls Tryz.prog 24 #[.pointer (some ⟨g, 0, none⟩)] w fun e w' => e = .returned (.string (mk (NU.pstr (L sc) (userL (redU us)) (L ho) (L pa) (L fr) (L rq) fq))) ∧ Fr w w' := by
  have D := Lib.hid (fun (g : Nat) W h hT => urlString_any sc ho pa fr rq (redU us) fq hsc hho hpa z1 z2 z3 z4 z5 (redU_sz us z6) g W h hT)
  obtain ⟨R, hR⟩ : ∃ R, R = mk (NU.pstr (L sc) (userL (redU us)) (L ho) (L pa) (L fr) (L rq) fq) := ⟨_, rfl⟩
  rw [← hR] at D ⊢
  clear hR hsc hho hpa z1 z2 z3 z4 z5 z6
  obtain ⟨v, hu, HB⟩ := h.out
  replace HB := Lib.hid HB
  match us, hu with
  | none, hu =>
    obtain rfl : v = .pointer none := hu
    have c2 : (w.alloc (.cells (urlA (plainR sc none ho pa fr rq fq) (.pointer none)) 64)).cell? ⟨w.heap.size, 2, none⟩ = some (.pointer none) := (Blk.new _ _ _).cell 2
    go_enter Tryz.func24, Tryz.ntmps24
    go_wp2_with (first
      | (refine wpList_load_u rfl _ rfl _ rfl _ _ HB rfl ?_)
      | (go_at_call 36; (with_reducible refine (password_nil _).mono ?_); rintro e w1 ⟨rfl, hf1⟩; have hU1 := Lib.hid (UrlIs.fr (U := plainR sc none ho pa fr rq fq) ⟨_, rfl, Blk.new w 64 (urlA (plainR sc none ho pa fr rq fq) (.pointer none))⟩ hf1); have hF1 := Lib.hid (Fr.trans ((Fr.refl w).alloc _) hf1))
      | (go_at_call 25; (with_reducible refine (D.out _ _ hU1 (Lib.hid (ht.out.fr hF1.out))).mono ?_); rintro e w2 ⟨rfl, hf2⟩)
      | fail)
    go_ret
    exact ⟨rfl, hF1.out.trans hf2⟩
  | some (n, p, false), hu =>
    obtain ⟨k, hk, hbk⟩ := hu
    subst hk
    have c2 : (w.alloc (.cells (urlA (plainR sc (some (n, p, false)) ho pa fr rq fq) (.pointer (some ⟨k, 0, none⟩))) 64)).cell? ⟨w.heap.size, 2, none⟩ = some (.pointer (some ⟨k, 0, none⟩)) := (Blk.new _ _ _).cell 2
    go_enter Tryz.func24, Tryz.ntmps24
    go_wp2_with (first
      | (refine wpList_load_u rfl _ rfl _ rfl _ _ HB rfl ?_)
      | (go_at_call 36; (with_reducible refine (password_any k n p false _ (Lib.hid (hbk.alloc _))).mono ?_); rintro e w1 ⟨rfl, hf1⟩; have hU1 := Lib.hid (UrlIs.fr (U := plainR sc (some (n, p, false)) ho pa fr rq fq) ⟨_, ⟨k, rfl, hbk.alloc _⟩, Blk.new w 64 (urlA (plainR sc (some (n, p, false)) ho pa fr rq fq) (.pointer (some ⟨k, 0, none⟩)))⟩ hf1); have hF1 := Lib.hid (Fr.trans ((Fr.refl w).alloc _) hf1))
      | (go_at_call 25; (with_reducible refine (D.out _ _ hU1 (Lib.hid (ht.out.fr hF1.out))).mono ?_); rintro e w2 ⟨rfl, hf2⟩)
      | fail)
    go_ret
    exact ⟨rfl, hF1.out.trans hf2⟩
  | some (n, p, true), hu =>
    obtain ⟨k, hk, hbk⟩ := hu
    subst hk
    have c2 : (w.alloc (.cells (urlA (plainR sc (some (n, p, true)) ho pa fr rq fq) (.pointer (some ⟨k, 0, none⟩))) 64)).cell? ⟨w.heap.size, 2, none⟩ = some (.pointer (some ⟨k, 0, none⟩)) := (Blk.new _ _ _).cell 2
    go_enter Tryz.func24, Tryz.ntmps24
    go_wp2_with (first
      | (refine wpList_load_u rfl _ rfl _ rfl _ _ HB rfl ?_)
      | (go_at_call 36; (with_reducible refine (password_any k n p true _ (Lib.hid (hbk.alloc _))).mono ?_); rintro e w1 ⟨rfl, hf1⟩; have hb1 := Lib.hid ((Blk.new w 64 (urlA (plainR sc (some (n, p, true)) ho pa fr rq fq) (.pointer (some ⟨k, 0, none⟩)))).below hf1 (by simp)); have hk1 := Lib.hid ((hbk.alloc (.cells (urlA (plainR sc (some (n, p, true)) ho pa fr rq fq) (.pointer (some ⟨k, 0, none⟩))) 64)).below hf1 (by have := hbk.lt; simp; omega)); have hF1 := Lib.hid (Fr.trans ((Fr.refl w).alloc _) hf1); have d2 : w1.cell? ⟨w.heap.size, 2, none⟩ = some (.pointer (some ⟨k, 0, none⟩)) := hb1.out.cell 2; have f2 := (hb1.out.alloc (.cells #[.string n, .string ⟨#[120, 120, 120, 120, 120]⟩, .bool true] 89)).frozen 2; have e2 : (w1.alloc (.cells #[.string n, .string ⟨#[120, 120, 120, 120, 120]⟩, .bool true] 89)).cell? ⟨w.heap.size, 2, none⟩ = some (.pointer (some ⟨k, 0, none⟩)) := (hb1.out.alloc _).cell 2; have hne : Hid (w.heap.size < w1.heap.size) := hb1.out.lt)
      | (go_at_call 35; (with_reducible refine (username_any k n p true _ hk1).mono ?_); rintro e w2 ⟨rfl, rfl⟩)
      | (go_at_call 39; (with_reducible refine (userPassword_any _ _ _).mono ?_); rintro e w4 ⟨rfl, rfl⟩)
      | (go_at_call 25; (with_reducible refine (D.out _ _ (Lib.hid (red_url hb1.out)) (Lib.hid (ht.out.fr ((hF1.out.alloc _).setCell (Nat.le_refl _) _)))).mono ?_); rintro e w3 ⟨rfl, hf3⟩)
      | fail)
    go_ret
    exact ⟨rfl, ((hF1.out.alloc _).setCell (Nat.le_refl _) _).trans hf3⟩
end Go.Proofs.YtibcegbacnjmfaaGreatDoor
