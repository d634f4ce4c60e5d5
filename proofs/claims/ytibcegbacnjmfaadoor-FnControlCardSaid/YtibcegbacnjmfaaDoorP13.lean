/-
  Plain Lean: what the package's parsing and writing of a URL compute.
-/
import Derived.Test.YtibcegbacnjmfaaDoorP12
import Derived.Test.YtibcegbacnjmfaaDoorP7
namespace NU
set_option linter.unusedVariables false
set_option linter.unusedSimpArgs false
def isCtl (c : UInt8) : Bool := decide (c.toNat < 32) || c == 127
def ctl (s : Bytes) : Bool := s.any isCtl
def lowc (c : UInt8) : UInt8 := if 65 ≤ c.toNat ∧ c.toNat ≤ 90 then c + 32 else c
def lower (s : Bytes) : Bytes := s.map lowc
/-- What is let through in a host (4), in a zone (8); elsewhere all whose percent signs are followed by two digits. -/
def vetP (m a b : UInt8) : Bool :=
  decide (0 ≤ hexv a) && decide (0 ≤ hexv b) && (!(m == 4) || decide (8 ≤ hexv a) || (a == 50 && b == 53)) &&
    (!(m == 8) || (a == 50 && b == 53) || hex2 a b == 32 || !should 4 (hex2 a b))
def vetC (m c : UInt8) : Bool := !(m == 4 || m == 8) || decide (128 ≤ c.toNat) || !should m c
def vet (m : UInt8) : Bytes → Bool
  | [] => true
  | c :: r =>
    if c = 37 then
      match r with
      | a :: b :: r' => vetP m a b && vet m r'
      | _ => false
    else if c = 43 then vet m r else vetC m c && vet m r
theorem vet_pct (m a b : UInt8) (r : Bytes) : vet m (37 :: a :: b :: r) = (vetP m a b && vet m r) := by simp [vet]
theorem vet_short (m : UInt8) (r : Bytes) (h : r.length < 2) : vet m (37 :: r) = false := by
  match r, h with
  | [], _ => simp [vet]
  | [a], _ => simp [vet]
theorem vet_plus (m : UInt8) (r : Bytes) : vet m (43 :: r) = vet m r := by
  rw [vet.eq_def]; simp
theorem vet_other (m c : UInt8) (r : Bytes) (h : c ≠ 37) (h' : c ≠ 43) : vet m (c :: r) = (vetC m c && vet m r) := by
  rw [vet.eq_def]; simp [h, h']
theorem vet_dec (m : UInt8) (q : Bool) (n : Nat) (s : Bytes) (hn : s.length ≤ n) (h : vet m s = true) : (dec q s).isSome = true := by
  induction n generalizing s with
  | zero => have : s = [] := List.eq_nil_of_length_eq_zero (by omega); rw [this]; rfl
  | succ n ih =>
    match s with
    | [] => rfl
    | c :: r =>
      simp only [List.length_cons] at hn
      by_cases hc : c = 37
      · subst hc
        match r with
        | [] => rw [vet_short _ _ (by simp)] at h; cases h
        | [a] => rw [vet_short _ _ (by simp)] at h; cases h
        | a :: b :: r' =>
          rw [vet_pct, Bool.and_eq_true] at h
          simp only [List.length_cons] at hn
          have h1 := h.1
          unfold vetP at h1
          simp only [Bool.and_eq_true, decide_eq_true_eq] at h1
          rw [dec_pct, if_pos ⟨h1.1.1.1, h1.1.1.2⟩]
          have := ih r' (by omega) h.2
          simpa using this
      · rw [dec_other _ _ _ hc]
        have : vet m r = true := by
          by_cases hp : c = 43
          · subst hp; rwa [vet_plus] at h
          · rw [vet_other _ _ _ hc hp, Bool.and_eq_true] at h; exact h.2
        have := ih r (by omega) this
        simpa using this
def uns (m : UInt8) (s : Bytes) : Option Bytes := if vet m s then dec false s else none

/-- An IPv4 address as the package takes it: digits so far in the octet, its value, octets behind. -/
def v4f : Nat → Nat → Nat → Bytes → Bool
  | dg, v, pos, [] => decide (3 ≤ pos)
  | dg, v, pos, c :: r =>
    if isDigit c then !(dg == 1 && v == 0) && decide (v * 10 + (c.toNat - 48) ≤ 255) && v4f (dg + 1) (v * 10 + (c.toNat - 48)) pos r
    else if c = 46 then decide (0 < dg) && !r.isEmpty && decide (pos < 3) && v4f 0 0 (pos + 1) r
    else false
def v4ok (s : Bytes) : Bool := v4f 0 0 0 s
def hexRun (s : Bytes) : Nat := s.findIdx (fun c => !isHex c)
/-- The loop of an IPv6 address: bytes so far, whether there was an ellipsis. -/
def v6go : Nat → Nat → Bool → Bytes → Bool
  | 0, _, _, _ => false
  | n + 1, i, e, s =>
    if 16 ≤ i then s.isEmpty && !e
    else if hexRun s = 0 ∨ 4 < hexRun s then false
    else if (s.drop (hexRun s)).head? = some 46 then (e || i == 12) && decide (i + 4 ≤ 16) && v4ok s && (if i + 4 < 16 then e else !e)
    else match s.drop (hexRun s) with
      | [] => if i + 2 < 16 then e else !e
      | c :: r =>
        if c ≠ 58 then false
        else match r with
          | [] => false
          | d :: r' =>
            if d = 58 then
              if e then false
              else if r' = [] then decide (i + 2 < 16)
              else v6go n (i + 2) true r'
            else v6go n (i + 2) e (d :: r')
def v6b (s : Bytes) : Bool := if begins s [58, 58] then (if s.drop 2 = [] then true else v6go 9 0 true (s.drop 2)) else v6go 9 0 false s
def v6 (s : Bytes) : Bool := if index s [37] < s.length then decide (index s [37] + 1 < s.length) && v6b (s.take (index s [37])) else v6b s
/-- An address with a colon, as netip takes it. -/
def addr6 (s : Bytes) : Bool := ((s.drop (index s [46, 58, 37])).head? == some 58) && v6 s

def hostB (host : Bytes) : Option Bytes :=
  let hn := (host.take (lastIdx 93 host).toNat).drop 1
  if 0 ≤ fsub [37, 50, 53] hn then
    match uns 4 (hn.take (fsub [37, 50, 53] hn).toNat), uns 8 (hn.drop (fsub [37, 50, 53] hn).toNat) with
    | some a, some b => some (a ++ b)
    | _, _ => none
  else uns 4 hn
def http (s : Bytes) : Bool := s == [104, 116, 116, 112] || s == [104, 116, 116, 112, 115]
def hostPortOk (scheme host : Bytes) : Bool :=
  decide (fsub [58] host < 0) || optPort (host.drop (if lastIdx 58 host ≠ fsub [58] host ∧ http scheme = false then lastIdx 58 host else fsub [58] host).toNat)
def parseHost (scheme host : Bytes) : Option Bytes :=
  if 0 < lastIdx 91 host then none
  else if lastIdx 91 host = 0 then
    if lastIdx 93 host < 0 then none
    else if optPort (host.drop ((lastIdx 93 host).toNat + 1)) = false then none
    else match uns 4 (host.drop ((lastIdx 93 host).toNat + 1)), hostB host with
      | some p, some h => if addr6 h then some (91 :: h ++ 93 :: p) else none
      | _, _ => none
  else if hostPortOk scheme host then uns 4 host else none
abbrev PUser := Option (Bytes × Bytes × Bool)
def parseUser (ui : Bytes) : Option (Bytes × Bytes × Bool) :=
  if validUserinfo ui = false then none
  else if fsub [58] ui < 0 then (dec false ui).map (fun u => (u, [], false))
  else match dec false (cutB [58] ui), dec false (cutA [58] ui) with
    | some u, some p => some (u, p, true)
    | _, _ => none
def parseAuth (scheme a : Bytes) : Option (PUser × Bytes) :=
  if lastIdx 64 a < 0 then (parseHost scheme a).map (fun h => (none, h))
  else match parseHost scheme (a.drop ((lastIdx 64 a).toNat + 1)), parseUser (a.take (lastIdx 64 a).toNat) with
    | some h, some u => some (some u, h)
    | _, _ => none
structure PU where
  scheme : Bytes := []
  opq : Bytes := []
  user : PUser := none
  host : Bytes := []
  path : Bytes := []
  frag : Bytes := []
  rawq : Bytes := []
  rawpath : Bytes := []
  rawfrag : Bytes := []
  fq : Bool := false
  oh : Bool := false
def cnt (c : UInt8) (s : Bytes) : Nat := (s.filter (· == c)).length
/-- Is the question mark the last byte, and the only one? -/
def pq (r : Bytes) : Bool := ends r [63] && cnt 63 r == 1
def pRest (r : Bytes) : Bytes := if pq r then r.take (r.length - 1) else cutB [63] r
def pQuery (r : Bytes) : Bytes := if pq r then [] else cutA [63] r
def setPath (u : PU) (p : Bytes) : Option PU := (dec false p).map (fun x => { u with path := x, rawpath := if p = esc 1 x then [] else p })
def setFrag (u : PU) (p : Bytes) : Option PU := (dec false p).map (fun x => { u with frag := x, rawfrag := if p = esc 64 x then [] else p })
def authOf (rest : Bytes) : Bytes := cutB [47] (rest.drop 2)
def restOf (rest : Bytes) : Bytes := if fsub [47] (rest.drop 2) < 0 then [] else (rest.drop 2).drop (fsub [47] (rest.drop 2)).toNat
def parse1 (u : PU) (rest : Bytes) (via : Bool) : Option PU :=
  if (!u.scheme.isEmpty || (!via && !begins rest [47, 47, 47])) && begins rest [47, 47] then
    match parseAuth u.scheme (authOf rest) with
    | none => none
    | some (us, h) => setPath { u with user := us, host := h } (restOf rest)
  else setPath { u with oh := !u.scheme.isEmpty && begins rest [47] } rest
def parse0 (raw : Bytes) (via : Bool) : Option PU :=
  if ctl raw then none
  else if raw = [] ∧ via = true then none
  else if raw = [42] then some { path := [42] }
  else if gsc 0 raw = -2 then none
  else
    let u : PU := { scheme := lower (gsS raw), rawq := pQuery (gsR raw), fq := pq (gsR raw) }
    let rest := pRest (gsR raw)
    if begins rest [47] = false then
      if u.scheme ≠ [] then some { u with opq := rest }
      else if via then none
      else if 0 ≤ fsub [58] (cutB [47] rest) then none
      else parse1 u rest via
    else parse1 u rest via
def parse (raw : Bytes) : Option PU :=
  match parse0 (cutB [35] raw) false with
  | none => none
  | some u => if cutA [35] raw = [] then some u else setFrag u (cutA [35] raw)
def parseReq (raw : Bytes) : Option PU := parse0 raw true

/-- String. -/
def uiStr (u : Bytes × Bytes × Bool) : Bytes := esc 16 u.1 ++ if u.2.2 then 58 :: esc 16 u.2.1 else []
def strHier (u : PU) : Bytes :=
  let a : Bytes :=
    if !u.scheme.isEmpty || !u.host.isEmpty || u.user.isSome then
      if u.oh && u.host.isEmpty && !u.user.isSome then []
      else (if !u.host.isEmpty || !u.path.isEmpty || u.user.isSome then [47, 47] else []) ++ (match u.user with | none => [] | some x => uiStr x ++ [64]) ++ esc 4 u.host
    else []
  let p := escPath u.path u.rawpath
  let two := u.oh && u.host.isEmpty && !u.user.isSome && begins p [47, 47]
  let q := if two then p.drop 1 else p
  let s := (if u.scheme.isEmpty then [] else u.scheme ++ [58]) ++ a ++ (if two then [37, 50, 70] else []) ++ (if !q.isEmpty && !(q.head? == some 47) && !u.host.isEmpty then [47] else [])
  s ++ (if s.isEmpty && decide (0 ≤ fsub [58] (cutB [47] q)) then [46, 47] else []) ++ q
def ustr (u : PU) : Bytes :=
  (if u.opq.isEmpty then strHier u else (if u.scheme.isEmpty then [] else u.scheme ++ [58]) ++ u.opq) ++
    (if u.fq || !u.rawq.isEmpty then 63 :: u.rawq else []) ++ (if u.frag.isEmpty then [] else 35 :: escFrag u.frag u.rawfrag)
end NU
