/-
  No cell of these rows narrows 'for every input' (looked for: loops, veiled, ifaces, maps, wideKeys, modest, calm, conditions, laid).
  DERIVED. THE GIVEN ROWS OF THIS SEAT. 2 by the template 'for every input the law returns true; each argument reads behind the call as it read before'; 0 by the template 'total and deterministic' (their statements: Qxb6618925aTotals.lean).
  GIVEN WITH THE SEED: the statements are not yours to turn. If you find one false, say at which input.
  Laid BY PROGRAM, IN A SANDBOX (cutbox-rows.mjs): the forced cells as the released guide's own fill.sh prints them over the translation 62c342885acde16c… (all of the seat's roots in one cut). By AI agents, Wed Nov 11 2026. No macro, syntax, notation, axiom, sorry.
-/
import Derived.Test.Qxb6618925aChecked
import GoSem.Claim
import GoSem.ClaimJoined
import GoSem.ClaimMapViews
import Derived.JoinedTies
import Derived.KernelRfl
namespace Go.Proofs.Qxb6618925a
/- THE CELL 'sum', in the pinned program and in every row, IS THE sha256 OF THE DUMP (.gsa) THAT Qxb6618925aProg.lean LOADS. Nothing in Lean hashes anything: it is a label: what it is worth is what the hold of that sum in a sandbox is worth. -/
noncomputable def Try.pinned : Pinned := { name := "qxb6618925a", sum := "62c342885acde16c74262ebd259f0737bac61f8df85e059e183fe29a30b988d1", checked := Try.checked }
namespace Rows
def none {H : Type} : Left H := { results := [], args := [] }

/-- 'zzlaws_root_b1.FnGrantableFollowsDanger': WHATEVER THE INPUT: true; the input reads as it did. -/
def fnGrantableFollowsDangerSpec : ChangeSpec := { name := "fnGrantableFollowsDanger", fn := fun _ => fun
  | [d1, d2] => { results := [.lit (.bool true)], args := [d1, d2] }
  | _ => none }
def fnGrantableFollowsDangerRow : OpenClaim := { program := "qxb6618925a", sum := "62c342885acde16c74262ebd259f0737bac61f8df85e059e183fe29a30b988d1", func := "example.com/tollgate/tollgate/zzlaws_root_b1.FnGrantableFollowsDanger", spec := "fnGrantableFollowsDanger", apart := false }
def FnGrantableFollowsDangerSaid : Prop := fnGrantableFollowsDangerRow.holds Try.pinned (OpenSpec.ofChange fnGrantableFollowsDangerSpec)

/-- ITS FALSE NEIGHBOUR: 'it returns false'. Refute it at one input. -/
def fnGrantableFollowsDangerWrong : ChangeSpec := { name := "fnGrantableFollowsDanger", fn := fun _ => fun
  | [d1, d2] => { results := [.lit (.bool false)], args := [d1, d2] }
  | _ => none }
def FnGrantableFollowsDangerWrongFalsely : Prop := fnGrantableFollowsDangerRow.holds Try.pinned (OpenSpec.ofChange fnGrantableFollowsDangerWrong)

/-- 'zzlaws_root_b1.FnCommentRunsToFarthestEnd': WHATEVER THE INPUT: true; the input reads as it did. -/
def fnCommentRunsToFarthestEndSpec : ChangeSpec := { name := "fnCommentRunsToFarthestEnd", fn := fun _ => fun
  | [d1, d2, d3, d4, d5, d6] => { results := [.lit (.bool true)], args := [d1, d2, d3, d4, d5, d6] }
  | _ => none }
def fnCommentRunsToFarthestEndRow : OpenClaim := { program := "qxb6618925a", sum := "62c342885acde16c74262ebd259f0737bac61f8df85e059e183fe29a30b988d1", func := "example.com/tollgate/tollgate/zzlaws_root_b1.FnCommentRunsToFarthestEnd", spec := "fnCommentRunsToFarthestEnd", apart := false }
def FnCommentRunsToFarthestEndSaid : Prop := fnCommentRunsToFarthestEndRow.holds Try.pinned (OpenSpec.ofChange fnCommentRunsToFarthestEndSpec)

/-- ITS FALSE NEIGHBOUR: 'it returns false'. Refute it at one input. -/
def fnCommentRunsToFarthestEndWrong : ChangeSpec := { name := "fnCommentRunsToFarthestEnd", fn := fun _ => fun
  | [d1, d2, d3, d4, d5, d6] => { results := [.lit (.bool false)], args := [d1, d2, d3, d4, d5, d6] }
  | _ => none }
def FnCommentRunsToFarthestEndWrongFalsely : Prop := fnCommentRunsToFarthestEndRow.holds Try.pinned (OpenSpec.ofChange fnCommentRunsToFarthestEndWrong)

end Rows
end Go.Proofs.Qxb6618925a
