/-
  No cell of these rows narrows 'for every input' (looked for: loops, veiled, ifaces, maps, wideKeys, modest, calm, conditions, laid).
  DERIVED. THE GIVEN ROWS OF THIS SEAT. 3 by the template 'for every input the law returns true; each argument reads behind the call as it read before'; 0 by the template 'total and deterministic' (their statements: Qxb6617128aTotals.lean).
  GIVEN WITH THE SEED: the statements are not yours to turn. If you find one false, say at which input.
  Laid BY PROGRAM, IN A SANDBOX (cutbox-rows.mjs): the forced cells as the released guide's own fill.sh prints them over the translation 91d90e3ffb0887ca… (all of the seat's roots in one cut). By AI agents, Wed Nov 11 2026. No macro, syntax, notation, axiom, sorry.
-/
import Derived.Test.Qxb6617128aChecked
import GoSem.Claim
import GoSem.ClaimJoined
import GoSem.ClaimMapViews
import Derived.JoinedTies
import Derived.KernelRfl
namespace Go.Proofs.Qxb6617128a
/- THE CELL 'sum', in the pinned program and in every row, IS THE sha256 OF THE DUMP (.gsa) THAT Qxb6617128aProg.lean LOADS. Nothing in Lean hashes anything: it is a label: what it is worth is what the hold of that sum in a sandbox is worth. -/
noncomputable def Try.pinned : Pinned := { name := "qxb6617128a", sum := "91d90e3ffb0887ca9ea04cf98db4c5051b3dfc49860f3697c52045c3e48183b2", checked := Try.checked }
namespace Rows
def none {H : Type} : Left H := { results := [], args := [] }

/-- 'zzlaws_dkim_b1.FnOneSpaceMatchesModel': WHATEVER THE INPUT: true; the input reads as it did. -/
def fnOneSpaceMatchesModelSpec : ChangeSpec := { name := "fnOneSpaceMatchesModel", fn := fun _ => fun
  | [d] => { results := [.lit (.bool true)], args := [d] }
  | _ => none }
def fnOneSpaceMatchesModelRow : OpenClaim := { program := "qxb6617128a", sum := "91d90e3ffb0887ca9ea04cf98db4c5051b3dfc49860f3697c52045c3e48183b2", func := "example.com/sealroute/sealroute/zzlaws_dkim_b1.FnOneSpaceMatchesModel", spec := "fnOneSpaceMatchesModel", inPlace := ["internal/abi.NoEscape"], apart := false }
def FnOneSpaceMatchesModelSaid : Prop := fnOneSpaceMatchesModelRow.holds Try.pinned (OpenSpec.ofChange fnOneSpaceMatchesModelSpec)

/-- ITS FALSE NEIGHBOUR: 'it returns false'. Refute it at one input. -/
def fnOneSpaceMatchesModelWrong : ChangeSpec := { name := "fnOneSpaceMatchesModel", fn := fun _ => fun
  | [d] => { results := [.lit (.bool false)], args := [d] }
  | _ => none }
def FnOneSpaceMatchesModelWrongFalsely : Prop := fnOneSpaceMatchesModelRow.holds Try.pinned (OpenSpec.ofChange fnOneSpaceMatchesModelWrong)

/-- 'zzlaws_dkim_b1.FnOneSpaceJoinAtAnyCut': WHATEVER THE INPUT: true; the input reads as it did. -/
def fnOneSpaceJoinAtAnyCutSpec : ChangeSpec := { name := "fnOneSpaceJoinAtAnyCut", fn := fun _ => fun
  | [d1, d2] => { results := [.lit (.bool true)], args := [d1, d2] }
  | _ => none }
def fnOneSpaceJoinAtAnyCutRow : OpenClaim := { program := "qxb6617128a", sum := "91d90e3ffb0887ca9ea04cf98db4c5051b3dfc49860f3697c52045c3e48183b2", func := "example.com/sealroute/sealroute/zzlaws_dkim_b1.FnOneSpaceJoinAtAnyCut", spec := "fnOneSpaceJoinAtAnyCut", inPlace := ["internal/abi.NoEscape"], apart := false }
def FnOneSpaceJoinAtAnyCutSaid : Prop := fnOneSpaceJoinAtAnyCutRow.holds Try.pinned (OpenSpec.ofChange fnOneSpaceJoinAtAnyCutSpec)

/-- ITS FALSE NEIGHBOUR: 'it returns false'. Refute it at one input. -/
def fnOneSpaceJoinAtAnyCutWrong : ChangeSpec := { name := "fnOneSpaceJoinAtAnyCut", fn := fun _ => fun
  | [d1, d2] => { results := [.lit (.bool false)], args := [d1, d2] }
  | _ => none }
def FnOneSpaceJoinAtAnyCutWrongFalsely : Prop := fnOneSpaceJoinAtAnyCutRow.holds Try.pinned (OpenSpec.ofChange fnOneSpaceJoinAtAnyCutWrong)

/-- 'zzlaws_dkim_b1.FnSplitAppendOnlyGrowsBody': WHATEVER THE INPUT: true; the input reads as it did. -/
def fnSplitAppendOnlyGrowsBodySpec : ChangeSpec := { name := "fnSplitAppendOnlyGrowsBody", fn := fun _ => fun
  | [d1, d2] => { results := [.lit (.bool true)], args := [d1, d2] }
  | _ => none }
def fnSplitAppendOnlyGrowsBodyRow : OpenClaim := { program := "qxb6617128a", sum := "91d90e3ffb0887ca9ea04cf98db4c5051b3dfc49860f3697c52045c3e48183b2", func := "example.com/sealroute/sealroute/zzlaws_dkim_b1.FnSplitAppendOnlyGrowsBody", spec := "fnSplitAppendOnlyGrowsBody", inPlace := ["internal/bytealg.IndexByte", "internal/bytealg.Index"], named := ["internal/bytealg.MaxLen"], apart := false }
def FnSplitAppendOnlyGrowsBodySaid : Prop := fnSplitAppendOnlyGrowsBodyRow.holds Try.pinned (OpenSpec.ofChange fnSplitAppendOnlyGrowsBodySpec)

/-- ITS FALSE NEIGHBOUR: 'it returns false'. Refute it at one input. -/
def fnSplitAppendOnlyGrowsBodyWrong : ChangeSpec := { name := "fnSplitAppendOnlyGrowsBody", fn := fun _ => fun
  | [d1, d2] => { results := [.lit (.bool false)], args := [d1, d2] }
  | _ => none }
def FnSplitAppendOnlyGrowsBodyWrongFalsely : Prop := fnSplitAppendOnlyGrowsBodyRow.holds Try.pinned (OpenSpec.ofChange fnSplitAppendOnlyGrowsBodyWrong)

end Rows
end Go.Proofs.Qxb6617128a
