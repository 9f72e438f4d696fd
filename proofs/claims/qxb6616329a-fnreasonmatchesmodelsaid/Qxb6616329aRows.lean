/-
  NARROWER THAN 'FOR EVERY INPUT', by the rows' own cells (each row's printed sentence says how): FnReasonMatchesModel: maps · FnReasonJoinOfSplitClaims: maps.
  DERIVED. THE GIVEN ROWS OF THIS SEAT. 2 by the template 'for every input the law returns true; each argument reads behind the call as it read before'; 0 by the template 'total and deterministic' (their statements: Qxb6616329aTotals.lean).
  GIVEN WITH THE SEED: the statements are not yours to turn. If you find one false, say at which input.
  Laid BY PROGRAM, IN A SANDBOX (cutbox-rows.mjs): the forced cells as the released guide's own fill.sh prints them over the translation ecdb8cb238b6de01… (all of the seat's roots in one cut). By AI agents, Wed Nov 11 2026. No macro, syntax, notation, axiom, sorry.
-/
import Derived.Test.Qxb6616329aChecked
import GoSem.Claim
import GoSem.ClaimJoined
import GoSem.ClaimMapViews
import Derived.JoinedTies
import Derived.KernelRfl
namespace Go.Proofs.Qxb6616329a
/- THE CELL 'sum', in the pinned program and in every row, IS THE sha256 OF THE DUMP (.gsa) THAT Qxb6616329aProg.lean LOADS. Nothing in Lean hashes anything: it is a label: what it is worth is what the hold of that sum in a sandbox is worth. -/
noncomputable def Try.pinned : Pinned := { name := "qxb6616329a", sum := "ecdb8cb238b6de013c4121dd6afea83f0b0a8f8fd9ae1d8da34b7a9f0c6ea4b9", checked := Try.checked }
namespace Rows
def none {H : Type} : Left H := { results := [], args := [] }

/-- 'zzlaws_internal_gate_b1.FnReasonMatchesModel': WHATEVER THE INPUT: true; the input reads as it did. -/
def fnReasonMatchesModelSpec : ChangeSpec := { name := "fnReasonMatchesModel", fn := fun _ => fun
  | [d1, d2, d3, d4, d5, d6] => { results := [.lit (.bool true)], args := [d1, d2, d3, d4, d5, d6] }
  | _ => none }
def fnReasonMatchesModelRow : OpenClaim := { program := "qxb6616329a", sum := "ecdb8cb238b6de013c4121dd6afea83f0b0a8f8fd9ae1d8da34b7a9f0c6ea4b9", func := "example.com/imprimatur/imprimatur/zzlaws_internal_gate_b1.FnReasonMatchesModel", spec := "fnReasonMatchesModel", inPlace := ["internal/bytealg.IndexByteString", "internal/bytealg.IndexString"], unfollowed := true, recurses := true, named := ["internal/bytealg.MaxLen"], maps := true, plainKeys := false, apart := false }
def FnReasonMatchesModelSaid : Prop := fnReasonMatchesModelRow.holds Try.pinned (OpenSpec.ofChange fnReasonMatchesModelSpec)

/-- ITS FALSE NEIGHBOUR: 'it returns false'. Refute it at one input. -/
def fnReasonMatchesModelWrong : ChangeSpec := { name := "fnReasonMatchesModel", fn := fun _ => fun
  | [d1, d2, d3, d4, d5, d6] => { results := [.lit (.bool false)], args := [d1, d2, d3, d4, d5, d6] }
  | _ => none }
def FnReasonMatchesModelWrongFalsely : Prop := fnReasonMatchesModelRow.holds Try.pinned (OpenSpec.ofChange fnReasonMatchesModelWrong)

/-- 'zzlaws_internal_gate_b1.FnReasonJoinOfSplitClaims': WHATEVER THE INPUT: true; the input reads as it did. -/
def fnReasonJoinOfSplitClaimsSpec : ChangeSpec := { name := "fnReasonJoinOfSplitClaims", fn := fun _ => fun
  | [d1, d2, d3, d4, d5, d6, d7] => { results := [.lit (.bool true)], args := [d1, d2, d3, d4, d5, d6, d7] }
  | _ => none }
def fnReasonJoinOfSplitClaimsRow : OpenClaim := { program := "qxb6616329a", sum := "ecdb8cb238b6de013c4121dd6afea83f0b0a8f8fd9ae1d8da34b7a9f0c6ea4b9", func := "example.com/imprimatur/imprimatur/zzlaws_internal_gate_b1.FnReasonJoinOfSplitClaims", spec := "fnReasonJoinOfSplitClaims", inPlace := ["internal/bytealg.IndexByteString", "internal/bytealg.IndexString"], unfollowed := true, recurses := true, named := ["internal/bytealg.MaxLen"], maps := true, plainKeys := false, apart := false }
def FnReasonJoinOfSplitClaimsSaid : Prop := fnReasonJoinOfSplitClaimsRow.holds Try.pinned (OpenSpec.ofChange fnReasonJoinOfSplitClaimsSpec)

/-- ITS FALSE NEIGHBOUR: 'it returns false'. Refute it at one input. -/
def fnReasonJoinOfSplitClaimsWrong : ChangeSpec := { name := "fnReasonJoinOfSplitClaims", fn := fun _ => fun
  | [d1, d2, d3, d4, d5, d6, d7] => { results := [.lit (.bool false)], args := [d1, d2, d3, d4, d5, d6, d7] }
  | _ => none }
def FnReasonJoinOfSplitClaimsWrongFalsely : Prop := fnReasonJoinOfSplitClaimsRow.holds Try.pinned (OpenSpec.ofChange fnReasonJoinOfSplitClaimsWrong)

end Rows
end Go.Proofs.Qxb6616329a
