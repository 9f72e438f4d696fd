import Derived.Test.Qxb6616348aDoorSi
set_option linter.unusedSimpArgs false
set_option linter.unusedVariables false
namespace Go.Proofs.Qxb6616348aDoor
open Go.RowKit

def lastBy (l : List (Nat × Int)) : Int := match l.getLast? with | some x => x.2 | none => 0
/-- a long run is written by its stand-in -/
def longRun (s : St) : St :=
  let name := min s.runs.length 3
  let n := 41 + name
  let s1 := { s with out := s.out ++ standIn s.run n }
  let s2 := if name < 3 then { s1 with runs := s1.runs ++ [s1.run], run := ⟨0, [], 0, false⟩ } else s1
  { s2 with shifts := s2.shifts ++ [(s2.out.length, (s2.length : Int) - n + lastBy s2.shifts)] }
def shut (s : St) : St := { s with full := decide (512 ≤ s.out.length) }
def close (s : St) : St :=
  let s0 := { s with inRun := false }
  shut (if s0.length ≤ 40 then { s0 with out := s0.out ++ s0.short } else longRun s0)
def tail (s : St) : St := if s.und then put { s with und := false } 95 else s
def endRun (s : St) : St := tail (if s.inRun then close s else s)
end Go.Proofs.Qxb6616348aDoor
