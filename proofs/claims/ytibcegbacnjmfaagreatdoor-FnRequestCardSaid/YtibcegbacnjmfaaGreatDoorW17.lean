import Derived.Test.YtibcegbacnjmfaaGreatDoorW1
import Derived.Test.YtibcegbacnjmfaaGreatDoorBlk
namespace Go.Proofs.YtibcegbacnjmfaaGreatDoor
set_option linter.unusedVariables false
set_option linter.unusedSimpArgs false
open Go.RowKit

/-- A URL's fields. -/
structure UrlR where
  scheme : ByteArray
  opq : ByteArray
  user : Option (ByteArray × ByteArray × Bool)
  host : ByteArray
  path : ByteArray
  fragment : ByteArray
  rawQuery : ByteArray
  rawPath : ByteArray
  rawFragment : ByteArray
  forceQuery : Bool
  omitHost : Bool

abbrev urlA (U : UrlR) (v : Value) : Array Value :=
  #[.string U.scheme, .string U.opq, v, .string U.host, .string U.path, .string U.fragment, .string U.rawQuery, .string U.rawPath, .string U.rawFragment, .bool U.forceQuery, .bool U.omitHost]
abbrev userA (n p : ByteArray) (b : Bool) : Array Value := #[.string n, .string p, .bool b]
/-- What a URL's user leads to. -/
def UserIs (w : World) (v : Value) : Option (ByteArray × ByteArray × Bool) → Prop
  | none => v = .pointer none
  | some (n, p, b) => ∃ g, v = .pointer (some ⟨g, 0, none⟩) ∧ Blk w g 89 (userA n p b)
/-- Block g holds the URL U. -/
def UrlIs (w : World) (g : Nat) (U : UrlR) : Prop := ∃ v, UserIs w v U.user ∧ Blk w g 64 (urlA U v)

theorem UserIs.fr {w w' : World} {v : Value} {u : Option (ByteArray × ByteArray × Bool)} (h : UserIs w v u) (f : Fr w w') : UserIs w' v u := by
  match u, h with
  | none, h => exact h
  | some (n, p, b), ⟨g, hg, hb⟩ => exact ⟨g, hg, hb.below f hb.lt⟩
theorem UrlIs.fr {w w' : World} {g : Nat} {U : UrlR} (h : UrlIs w g U) (f : Fr w w') : UrlIs w' g U := by
  obtain ⟨v, hu, hb⟩ := h
  exact ⟨v, hu.fr f, hb.below f hb.lt⟩
theorem UrlIs.lt {w : World} {g : Nat} {U : UrlR} (h : UrlIs w g U) : g < w.heap.size := by obtain ⟨v, hu, hb⟩ := h; exact hb.lt

/-- The thin package's URL as a value. -/
structure IUrl where
  scheme : ByteArray
  opq : ByteArray
  hasUser : Bool
  username : ByteArray
  hasPassword : Bool
  password : ByteArray
  host : ByteArray
  path : ByteArray
  rawPath : ByteArray
  forceQuery : Bool
  rawQuery : ByteArray
  fragment : ByteArray
  rawFragment : ByteArray
  omitHost : Bool
  escapedPath : ByteArray
  escapedFragment : ByteArray
abbrev iurlA (u : IUrl) : Array Value :=
  #[.string u.scheme, .string u.opq, .bool u.hasUser, .string u.username, .bool u.hasPassword, .string u.password, .string u.host, .string u.path, .string u.rawPath, .bool u.forceQuery,
    .string u.rawQuery, .string u.fragment, .string u.rawFragment, .bool u.omitHost, .string u.escapedPath, .string u.escapedFragment]
/-- The URL that impl.made makes. -/
def madeOf (u : IUrl) : UrlR :=
  { scheme := u.scheme, opq := u.opq, user := if u.hasUser then some (u.username, if u.hasPassword then u.password else ⟨#[]⟩, u.hasPassword) else none, host := u.host, path := u.path,
    fragment := u.fragment, rawQuery := u.rawQuery, rawPath := u.rawPath, rawFragment := u.rawFragment, forceQuery := u.forceQuery, omitHost := u.omitHost }

theorem Blk.new_at {w : World} {t : TypeId} {cs : Array Value} {n : Nat} (hn : n = w.heap.size) : Blk (w.alloc (.cells cs t)) n t cs := by rw [hn]; exact Blk.new _ _ _
def MadePost (u : IUrl) (w : World) (e : Ending) (w' : World) : Prop :=
  e = .returned (.pointer (some ⟨w.heap.size + 1, 0, none⟩)) ∧ Fr w w' ∧ UrlIs w' (w.heap.size + 1) (madeOf u)

set_option maxRecDepth 100000 in
set_option maxHeartbeats 1000000 in
theorem made_any (u : IUrl) (w : World) :
    Calls Tryz.prog 23 #[.agg (iurlA u)] w fun e w' => MadePost u w e w' := by
  obtain ⟨sc, op, hu, un, hp, pw, ho, pa, rp, fq, rq, fr, rf, oh, ep, ef⟩ := u
  cases hu
  · cases hp
    all_goals
      go_enter Tryz.func23, Tryz.ntmps23
      go_wp2
      go_ret
      exact ⟨rfl, ((Fr.refl _).alloc _).alloc _, .pointer none, rfl, Blk.new_at (by simp)⟩
  · cases hp
    all_goals
      go_enter Tryz.func23, Tryz.ntmps23
      go_wp2
      go_ret
      exact ⟨rfl, (((Fr.refl _).alloc _).alloc _).alloc _, .pointer (some ⟨w.heap.size + 2, 0, none⟩), ⟨w.heap.size + 2, rfl, Blk.new_at (by simp)⟩, Blk.alloc (Blk.new_at (by simp)) _⟩

theorem made_call (sc op un pw ho pa rp rq fr rf ep ef : ByteArray) (hu hp fq oh : Bool) (w : World) (K : Ending → World → Prop)
    (hk : ∀ g w1, Fr w w1 → Hid (UrlIs w1 g (madeOf ⟨sc, op, hu, un, hp, pw, ho, pa, rp, fq, rq, fr, rf, oh, ep, ef⟩)) → K (.returned (.pointer (some ⟨g, 0, none⟩))) w1) :
    Calls Tryz.prog 23 #[.agg #[.string sc, .string op, .bool hu, .string un, .bool hp, .string pw, .string ho, .string pa, .string rp, .bool fq, .string rq, .string fr, .string rf, .bool oh, .string ep, .string ef]] w K :=
  (made_any ⟨sc, op, hu, un, hp, pw, ho, pa, rp, fq, rq, fr, rf, oh, ep, ef⟩ w).mono (by rintro e w1 ⟨rfl, hf, hu⟩; exact hk _ w1 hf (Lib.hid hu))
end Go.Proofs.YtibcegbacnjmfaaGreatDoor
