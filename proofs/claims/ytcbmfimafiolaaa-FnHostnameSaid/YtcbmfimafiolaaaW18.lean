import Derived.Test.YtcbmfimafiolaaaW17
namespace Go.Proofs.Ytcbmfimafiolaaa
set_option linter.unusedVariables false
set_option linter.unusedSimpArgs false
open Go.RowKit

theorem urlHostname_call (sc op un pw ho pa rp rq fr rf ep ef : ByteArray) (hu hp fq oh : Bool) (w : World) (g : Nat) (K : Ending → World → Prop)
    (hs : ho.size ≤ 1099511627776) (h : Hid (UrlIs w g (madeOf ⟨sc, op, hu, un, hp, pw, ho, pa, rp, fq, rq, fr, rf, oh, ep, ef⟩)))
    (hk : ∀ w1, Fr w w1 → K (.returned (.string (mk (NU.shH (L ho))))) w1) :
    Calls Try.prog 39 #[.pointer (some ⟨g, 0, none⟩)] w K :=
  (urlHostname_any g _ w h.out hs).mono (by rintro e w1 ⟨rfl, hf⟩; exact hk w1 hf)
set_option maxRecDepth 100000 in
set_option maxHeartbeats 1000000 in
theorem implHostname_any (sc op un pw ho pa rp rq fr rf ep ef : ByteArray) (hu hp fq oh : Bool) (w : World) (hs : ho.size ≤ 1099511627776) :
    Calls Try.prog 20 #[.agg #[.string sc, .string op, .bool hu, .string un, .bool hp, .string pw, .string ho, .string pa, .string rp, .bool fq, .string rq, .string fr, .string rf, .bool oh, .string ep, .string ef]] w fun e w' => e = .returned (.string (mk (NU.shH (L ho)))) ∧ Fr w w' := by
  have C := Lib.hid (made_call sc op un pw ho pa rp rq fr rf ep ef hu hp fq oh)
  have D := Lib.hid (urlHostname_call sc op un pw ho pa rp rq fr rf ep ef hu hp fq oh)
  replace hs := Lib.hid hs
  go_enter Try.func20, Try.ntmps20
  go_wp2_with fail
  refine C.out _ _ ?_
  intro g w1 hf1 hu1
  go_wp2_with fail
  refine D.out _ _ _ hs.out hu1 ?_
  intro w2 hf2
  go_wp2
  go_ret
  exact ⟨rfl, (((Fr.refl _).alloc _).trans hf1).trans hf2⟩

theorem urlPort_call (sc op un pw ho pa rp rq fr rf ep ef : ByteArray) (hu hp fq oh : Bool) (w : World) (g : Nat) (K : Ending → World → Prop)
    (hs : ho.size ≤ 1099511627776) (h : Hid (UrlIs w g (madeOf ⟨sc, op, hu, un, hp, pw, ho, pa, rp, fq, rq, fr, rf, oh, ep, ef⟩)))
    (hk : ∀ w1, Fr w w1 → K (.returned (.string (mk (NU.shP (L ho))))) w1) :
    Calls Try.prog 40 #[.pointer (some ⟨g, 0, none⟩)] w K :=
  (urlPort_any g _ w h.out hs).mono (by rintro e w1 ⟨rfl, hf⟩; exact hk w1 hf)
set_option maxRecDepth 100000 in
set_option maxHeartbeats 1000000 in
theorem implPort_any (sc op un pw ho pa rp rq fr rf ep ef : ByteArray) (hu hp fq oh : Bool) (w : World) (hs : ho.size ≤ 1099511627776) :
    Calls Try.prog 21 #[.agg #[.string sc, .string op, .bool hu, .string un, .bool hp, .string pw, .string ho, .string pa, .string rp, .bool fq, .string rq, .string fr, .string rf, .bool oh, .string ep, .string ef]] w fun e w' => e = .returned (.string (mk (NU.shP (L ho)))) ∧ Fr w w' := by
  have C := Lib.hid (made_call sc op un pw ho pa rp rq fr rf ep ef hu hp fq oh)
  have D := Lib.hid (urlPort_call sc op un pw ho pa rp rq fr rf ep ef hu hp fq oh)
  replace hs := Lib.hid hs
  go_enter Try.func21, Try.ntmps21
  go_wp2_with fail
  refine C.out _ _ ?_
  intro g w1 hf1 hu1
  go_wp2_with fail
  refine D.out _ _ _ hs.out hu1 ?_
  intro w2 hf2
  go_wp2
  go_ret
  exact ⟨rfl, (((Fr.refl _).alloc _).trans hf1).trans hf2⟩
end Go.Proofs.Ytcbmfimafiolaaa
