import Derived.Test.YtlholchmgheemaaDoorW54
namespace Go.Proofs.YtlholchmgheemaaDoor
set_option linter.unusedVariables false
set_option linter.unusedSimpArgs false
open Go.RowKit Go.Maps

set_option maxHeartbeats 1000000 in
/-- url.ParseQuery: the map's block, its values. -/
theorem urlParseQuery_any (s : ByteArray) (hs : s.size ≤ 35184372088832) (w : World) (ht : Hid (Tab w)) :
    Calls Tryd.prog 22 #[.string s] w fun e w' => ∃ b ev n S, e = .returned (.tuple #[.map (some b), ev]) ∧ ErrB ev (NU.qparse (L s)).2 ∧ n ≤ 10001 ∧ Gmap w.heap.size w' b n S (NU.qparse (L s)).1 ∧ QLen (NU.qparse (L s)).1 n ∧ Fr w w' := by
  have hmm := @run_makeMap Tryd.prog
  have HG := Lib.hid (Gmap.made w w.heap.size)
  have HT := Lib.hid (ht.out.fr ((Fr.refl w).alloc (.map #[] 0)))
  have C := Lib.hid (parseQuery_any w.heap.size s hs (w.alloc (.map #[] 0)) HG HT ht.out.lt)
  clear HG HT
  go_enter Tryd.func22, Tryd.ntmps22
  go_wp2_with (go_at_call 30; (with_reducible refine C.out.mono ?_); rintro e w1 ⟨ev, n, S, rfl, hev, hn, hG, hQ, hB⟩; replace hev := Lib.hid hev; replace hG := Lib.hid hG; replace hQ := Lib.hid hQ; replace hB := Lib.hid hB)
  go_ret2
  exact ⟨_, _, n, S, rfl, hev.out, hn, hG.out, hQ.out, Below.trans ((Fr.refl w).alloc _) hB.out⟩
theorem Pairs.mono {B B' : Nat} {w : World} {v : Value} {S : SL} {M : NU.QM} (h : Pairs B w v S M) (hB : B' ≤ B) : Pairs B' w v S M := ⟨ownsRow_mono h.own hB, h.svs.mono hB, h.off⟩
theorem gmap_len {B : Nat} {w : World} {b n : Nat} {S : SL} {M : NU.QM} (h : Gmap B w b n S M) : M.length ≤ n := by
  have h1 := gmap_size h
  have h2 : Maps.size (dmap S) = S.length := by unfold dmap Maps.size dents; simp
  have h3 := h.1.len
  omega
/-- The values are few, and so are those at each key. -/
def Few (M : NU.QM) : Prop := M.length ≤ 1099511627776 ∧ ∀ (i : Nat) (h : i < M.length), M[i].2.length ≤ 1099511627776
theorem few_of {B : Nat} {w : World} {b n : Nat} {S : SL} {M : NU.QM} (h : Gmap B w b n S M) (hq : QLen M n) (hn : n ≤ 10001) : Few M := by
  refine ⟨by have := gmap_len h; omega, fun i hi => ?_⟩
  have := hq _ _ (NU.look_of_mem h.1.sm (List.getElem_mem hi)); omega
/-- Where the error is nil. -/
theorem errB_nil {v : Value} {b : Bool} (h : ErrB v b) : (b = false ∧ v = .nilIface) ∨ (b = true ∧ ∃ t x, v = .iface t x) := by
  cases b
  · exact .inl ⟨rfl, h⟩
  · exact .inr ⟨rfl, h⟩
set_option maxRecDepth 100000 in
set_option maxHeartbeats 2000000 in
theorem implParseQuery_any (s : ByteArray) (hs : s.size ≤ 35184372088832) (w : World) (ht : Hid (Tab w)) :
    Calls Tryd.prog 11 #[.string s] w fun e w' => ∃ v S, e = .returned (.tuple #[v, .bool (!(NU.qparse (L s)).2)]) ∧ Fr w w' ∧ Pairs w.heap.size w' v S (NU.qparse (L s)).1 ∧ Few (NU.qparse (L s)).1 := by
  have C := Lib.hid (urlParseQuery_any s hs)
  go_enter Tryd.func11, Tryd.ntmps11
  go_wp2_with (go_at_call 22; (with_reducible refine (C.out _ ht).mono ?_); rintro e w1 ⟨b, ev, n, S, rfl, hev, hn, hG, hQ, hB⟩; replace hev := Lib.hid hev; replace hG := Lib.hid hG; replace hQ := Lib.hid hQ; replace hB := Lib.hid hB)
  have CP := Lib.hid (pairs_any w.heap.size b n S (NU.qparse (L s)).1)
  rcases errB_nil hev.out with ⟨he, hv⟩ | ⟨he, t0, x0, hv⟩
  all_goals
    subst hv
    go_region_with (go_at_call 23; (with_reducible refine (CP.out _ (Lib.hid (hG.out.fr ((Fr.refl _).drew))) hn hQ).mono ?_); rintro e w2 ⟨v, S', rfl, hf2, hp2⟩; replace hf2 := Lib.hid hf2; replace hp2 := Lib.hid hp2)
    all_goals go_wp2
    all_goals go_ret2
    all_goals rw [he]
    all_goals exact ⟨v, S', rfl, (Fr.trans hB.out ((Fr.refl _).drew)).trans hf2.out, hp2.out.mono hB.out.size, few_of hG.out hQ.out hn⟩
end Go.Proofs.YtlholchmgheemaaDoor
