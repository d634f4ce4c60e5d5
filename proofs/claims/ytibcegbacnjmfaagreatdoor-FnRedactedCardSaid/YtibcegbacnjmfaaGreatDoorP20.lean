/-
  Plain Lean: the string of a plain URL.
-/
import Derived.Test.YtibcegbacnjmfaaGreatDoorP
namespace NU
set_option linter.unusedVariables false
set_option linter.unusedSimpArgs false
def pUser : PUser → Bytes
  | none => []
  | some x => uiStr x ++ [64]
def pQ (fq : Bool) (rq : Bytes) : Bytes := if fq || !rq.isEmpty then 63 :: rq else []
def pF (fr : Bytes) : Bytes := if fr.isEmpty then [] else 35 :: escFrag fr []
/-- The string of a URL with a scheme and a host, without hints. -/
def pstr (sc : Bytes) (us : PUser) (ho pa fr rq : Bytes) (fq : Bool) : Bytes :=
  sc ++ [58] ++ [47, 47] ++ pUser us ++ esc 4 ho ++ escPath pa [] ++ pQ fq rq ++ pF fr
end NU
