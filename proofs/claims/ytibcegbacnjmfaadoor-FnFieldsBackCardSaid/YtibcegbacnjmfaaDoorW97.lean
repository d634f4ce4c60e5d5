import Derived.Test.YtibcegbacnjmfaaDoorW95
import Derived.Test.YtibcegbacnjmfaaDoorW46
import Derived.Test.YtibcegbacnjmfaaDoorW89
import Derived.Test.YtibcegbacnjmfaaDoorW84
import Derived.Test.YtibcegbacnjmfaaDoorP
namespace Go.Proofs.YtibcegbacnjmfaaDoor
set_option linter.unusedVariables false
set_option linter.unusedSimpArgs false
open Go.RowKit

/-- A host that parseHost's contract speaks of. -/
def HostG (h : List UInt8) : Prop := NU.HostB h ∨ ((91 : UInt8) ∉ h ∧ (37 : UInt8) ∉ h)
theorem hostC_good (raw : ByteArray) (via : Bool) (hs : raw.size ≤ 137438953472)
    (h : hasAuth (L raw) via = true → HostG (hostPart (NU.authOf (NU.pRest (NU.gsR (L raw)))))) : HostC (L raw) via := by
  intro hA sc ho hsc hho W hW
  rcases h hA with h1 | h1
  · have hz : ho.size ≤ 137438953472 := by
      have h1 := authOf_len (NU.pRest (NU.gsR (L raw)))
      have h2 := pRestR_len raw
      have h3 := hostPart_len (NU.authOf (NU.pRest (NU.gsR (L raw))))
      rw [← hho, L_length] at h3; omega
    exact parseHost_bracket sc ho (by omega) (by rw [hho]; exact h1) W hW
  · exact hostC_plain raw via hs (fun _ => h1) hA sc ho hsc hho W hW
theorem toldC_any (raw : ByteArray) (u : NU.PU) (hs : raw.size ≤ 137438953472) (hn : NU.parse (L raw) = some u) : ToldC (urlBA u) := by
  cases hU : u.user with
  | none => exact toldC_none raw u hs hn hU
  | some x =>
    intro g W hu hW
    have hz := NU.parse_sz hn
    rw [L_length] at hz
    refine told_some g (urlBA u) (mk x.1) (mk x.2.1) x.2.2 (by show userBA u.user = _; rw [hU]; rfl) ?_ ?_ ?_ ?_ W hu hW
    · show (mk u.path).size ≤ _; rw [mk_size]; omega
    · show (mk u.rawpath).size ≤ _; rw [mk_size]; omega
    · show (mk u.frag).size ≤ _; rw [mk_size]; omega
    · show (mk u.rawfrag).size ≤ _; rw [mk_size]; omega
def userP (P : IUrl) : NU.PUser := userL (usOf P.hasUser P.username P.hasPassword P.password)
/-- What the laws need of spec.Plain's URLs. -/
structure PlainG (P : IUrl) : Prop where
  f : PlainF P
  s : NU.GoodS (L P.scheme) (L P.host)
  h : HostG (L P.host)
  u : NU.GoodU (userP P)
  p : NU.GoodP (L P.path)
  q : NU.GoodQ (L P.rawQuery) P.forceQuery
  ep : P.escapedPath = ⟨#[]⟩
  ef : P.escapedFragment = ⟨#[]⟩
  nu : P.hasUser = false → P.username = ⟨#[]⟩ ∧ P.hasPassword = false ∧ P.password = ⟨#[]⟩
  np : P.hasPassword = false → P.password = ⟨#[]⟩
theorem hostG_list (j : Nat) (hj : j < 6) : HostG (NU.host6 j) := by
  by_cases h2 : j = 2
  · subst h2
    exact .inl ⟨[58, 58, 49], [58, 56, 48, 56, 48], rfl, by decide +kernel, by decide⟩
  · exact .inr (NU.host6_plain j hj h2)
theorem schemeL (i : Nat) (hi : i < 4) : L (schemeOf i) = NU.scheme4 i := by
  match i, hi with
  | 0, _ => rfl
  | 1, _ => rfl
  | 2, _ => rfl
  | 3, _ => rfl
theorem hostL (i : Nat) (hi : i < 6) : L (hostOf i) = NU.host6 i := by
  match i, hi with
  | 0, _ => rfl
  | 1, _ => rfl
  | 2, _ => rfl
  | 3, _ => rfl
  | 4, _ => rfl
  | 5, _ => rfl
theorem plainI_G (i j : Nat) (hi : i < 4) (hj : j < 6) (u : IUrl) (h : FitsU u) : PlainG (plainI i j u) := by
  have hF := plainI_F i j u h
  refine ⟨hF, ?_, ?_, ?_, hF.pa, ?_, rfl, rfl, ?_, ?_⟩
  · show NU.GoodS (L (schemeOf i)) (L (hostOf j))
    rw [schemeL i hi, hostL j hj]; exact NU.goodS i j hi hj
  · show HostG (L (hostOf j))
    rw [hostL j hj]; exact hostG_list j hj
  · show NU.GoodU (userL (usOf u.hasUser _ (u.hasUser && u.hasPassword) _))
    cases u.hasUser
    · exact trivial
    · cases u.hasPassword
      · exact rfl
      · exact trivial
  · show NU.GoodQ (L (if NU.chars [58, 64, 47, 63] true (L u.rawQuery) then u.rawQuery else ⟨#[]⟩)) (u.forceQuery && (!NU.chars [58, 64, 47, 63] true (L u.rawQuery) || (L u.rawQuery).isEmpty))
    cases hc : NU.chars [58, 64, 47, 63] true (L u.rawQuery)
    · exact ⟨by intro d hd; simp [L] at hd, fun _ => rfl⟩
    · refine ⟨fun d hd => ?_, fun hq => ?_⟩
      · have := NU.chars_ok hc (fun c hc => hc) d hd
        exact ⟨this.2, this.1⟩
      · simp at hq; simpa using hq.2
  · intro hu
    have hu : u.hasUser = false := hu
    show (if u.hasUser then u.username else (⟨#[]⟩ : ByteArray)) = ⟨#[]⟩ ∧ (u.hasUser && u.hasPassword) = false ∧ (if u.hasUser && u.hasPassword then u.password else (⟨#[]⟩ : ByteArray)) = ⟨#[]⟩
    rw [hu]; exact ⟨rfl, rfl, rfl⟩
  · intro hp
    have hp : (u.hasUser && u.hasPassword) = false := hp
    show (if u.hasUser && u.hasPassword then u.password else (⟨#[]⟩ : ByteArray)) = ⟨#[]⟩
    rw [hp]; rfl
def pstrP (P : IUrl) : ByteArray := mk (NU.pstr (L P.scheme) (userP P) (L P.host) (L P.path) (L P.fragment) (L P.rawQuery) P.forceQuery)
theorem esc_le (m : UInt8) (s : NU.Bytes) : (NU.esc m s).length ≤ 3 * s.length := by
  have h1 := NU.esc_length m s
  have h2 := NU.hexN_le m s
  omega
theorem uiStr_len (x : NU.Bytes × NU.Bytes × Bool) (h1 : x.1.length ≤ 2147483647) (h2 : x.2.1.length ≤ 2147483647) : (NU.uiStr x).length ≤ 12884901886 := by
  obtain ⟨n, p, b⟩ := x
  have e1 := esc_le 16 n
  have e2 := esc_le 16 p
  simp only at h1 h2
  unfold NU.uiStr
  cases b
  · simp; omega
  · simp; omega
theorem pstrP_sz (P : IUrl) (G : PlainG P) : (pstrP P).size ≤ 137438953472 := by
  have z1 := G.f.z1
  have z2 := G.f.z2
  have z3 := G.f.z3
  have z4 := G.f.z4
  have z5 := G.f.z5
  have e3 := esc_le 1 (L P.path)
  have e4 := esc_le 64 (L P.fragment)
  have hu : (NU.pUser (userP P)).length ≤ 12884901887 := by
    have hz := usOf_sz P.hasUser P.username P.hasPassword P.password G.f.z6 G.f.z7
    unfold userP
    cases he : usOf P.hasUser P.username P.hasPassword P.password with
    | none => show (0 : Nat) ≤ _; omega
    | some x =>
      obtain ⟨n, p, b⟩ := x
      obtain ⟨h1, h2⟩ := hz n p b he
      have := uiStr_len (L n, L p, b) (by show (L n).length ≤ _; rw [L_length]; exact h1) (by show (L p).length ≤ _; rw [L_length]; exact h2)
      show (NU.uiStr (L n, L p, b) ++ [64]).length ≤ _
      rw [List.length_append]; simp; omega
  unfold pstrP
  rw [mk_size, NU.pstr, NU.escPath_nil _ (NU.goodP_ne G.p), G.s.esc]
  have hq : (NU.pQ P.forceQuery (L P.rawQuery)).length ≤ P.rawQuery.size + 1 := by
    unfold NU.pQ; split
    · rw [List.length_cons, L_length]; omega
    · simp
  have hf : (NU.pF (L P.fragment)).length ≤ (NU.esc 64 (L P.fragment)).length + 1 := by
    unfold NU.pF; split
    · simp
    · rw [List.length_cons, NU.escFrag_nil]; omega
  simp only [L_length] at e3 e4
  simp only [List.length_append, L_length, List.length_cons, List.length_nil]
  omega
/-- The parsed URL, as data. -/
def backP (P : IUrl) : IUrl := { P with escapedPath := mk (NU.escPath (L P.path) []), escapedFragment := mk (NU.escFrag (L P.fragment) []) }
def puP (P : IUrl) : NU.PU := { scheme := L P.scheme, user := userP P, host := L P.host, path := L P.path, frag := L P.fragment, rawq := L P.rawQuery, fq := P.forceQuery }
theorem parseP (P : IUrl) (G : PlainG P) : NU.parse (L (pstrP P)) = some (puP P) :=
  NU.parse_pstr G.s (userP P) G.u (L P.path) (L P.fragment) G.p (L P.rawQuery) P.forceQuery G.q
theorem told_puP (P : IUrl) (G : PlainG P) : toldOf (urlBA (puP P)) = backP P := by
  obtain ⟨⟨e1, e2, e3, e4, _, _, _, _, _, _, _, _, _, _⟩, _, _, _, _, _, e5, e6, hnu, hnp⟩ := G
  obtain ⟨sc, op, hu, un, hp, pw, ho, pa, rp, fq, rq, fr, rf, oh, ep, ef⟩ := P
  simp only at e1 e2 e3 e4 e5 e6 hnu hnp
  subst e1 e2 e3 e4 e5 e6
  unfold toldOf urlBA puP backP userP
  simp only [mk_L, L_mk]
  cases hu
  · obtain ⟨rfl, rfl, rfl⟩ := hnu rfl
    rfl
  · cases hp
    · have := hnp rfl
      subst this
      simp [usOf, userL, userBA, mk_L]; rfl
    · simp [usOf, userL, userBA, mk_L]; rfl
theorem hostPart_auth (us : NU.PUser) (ho : List UInt8) (h : (64 : UInt8) ∉ ho) : hostPart (NU.auth us ho) = ho := by
  unfold hostPart NU.auth
  cases us with
  | none =>
    have e : NU.pUser none ++ ho = ho := rfl
    rw [e, NU.lastIdx_nomem 64 ho h]; rfl
  | some x =>
    have e : NU.pUser (some x) ++ ho = NU.uiStr x ++ 64 :: ho := by show (NU.uiStr x ++ [64]) ++ ho = _; rw [List.append_assoc]; rfl
    rw [e, NU.lastIdx_mid 64 _ ho h, show (((NU.uiStr x).length : Int) + 1).toNat = (NU.uiStr x).length + 1 by omega, ← List.drop_drop, List.drop_left]; rfl
theorem parseCP (P : IUrl) (G : PlainG P) : ParseC (pstrP P) := by
  intro W hW
  have hz := pstrP_sz P G
  refine urlParse_host (pstrP P) hz ?_ W hW
  have hc := (NU.cut_front G.s (userP P) (L P.path) (L P.fragment) (L P.rawQuery) P.forceQuery G.p G.q).1
  obtain ⟨b, hb⟩ : ∃ b, L b = NU.cutB [35] (L (pstrP P)) := ⟨mk _, L_mk _⟩
  have hbz : b.size ≤ 137438953472 := by
    have h1 := NU.cutB_len [35] (L (pstrP P))
    rw [← hb, L_length, L_length] at h1; omega
  rw [← hb]
  refine hostC_good b false hbz fun _ => ?_
  have e : L b = NU.front (L P.scheme) (userP P) (L P.host) (L P.path) (L P.rawQuery) P.forceQuery := by rw [hb]; exact hc
  rw [e, NU.auth_front G.s (userP P) (L P.path) (L P.rawQuery) P.forceQuery G.p G.q, hostPart_auth _ _ (fun hm => (G.s.hok 64 hm).2.2.2.1 rfl)]
  exact G.h
theorem implParseP (P : IUrl) (G : PlainG P) (w : World) (ht : Hid (Tab w)) :
    Calls Tryd.prog 9 #[.string (pstrP P)] w fun e w' => e = .returned (.tuple #[.agg (iurlA (backP P)), .bool true]) ∧ Fr w w' := by
  have h := implParse_yes (pstrP P) _ (parseP P G) (parseCP P G) (toldC_any (pstrP P) _ (pstrP_sz P G) (parseP P G)) w ht
  rw [told_puP P G] at h
  exact h
end Go.Proofs.YtibcegbacnjmfaaDoor
