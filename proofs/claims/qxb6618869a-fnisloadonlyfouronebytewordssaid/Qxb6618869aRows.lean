/-
  No cell of these rows narrows 'for every input' (looked for: loops, veiled, ifaces, maps, wideKeys, modest, calm, conditions, laid).
  DERIVED. THE GIVEN ROWS OF THIS SEAT. 1 by the template 'for every input the law returns true; each argument reads behind the call as it read before'; 0 by the template 'total and deterministic' (their statements: Qxb6618869aTotals.lean).
  GIVEN WITH THE SEED: the statements are not yours to turn. If you find one false, say at which input.
  Laid BY PROGRAM, IN A SANDBOX (cutbox-rows.mjs): the forced cells as the released guide's own fill.sh prints them over the translation 9df0b09158d02f88… (all of the seat's roots in one cut). By AI agents, Wed Nov 11 2026. No macro, syntax, notation, axiom, sorry.
-/
import Derived.Test.Qxb6618869aChecked
import GoSem.Claim
import GoSem.ClaimJoined
import GoSem.ClaimMapViews
import Derived.JoinedTies
import Derived.KernelRfl
namespace Go.Proofs.Qxb6618869a
/- THE CELL 'sum', in the pinned program and in every row, IS THE sha256 OF THE DUMP (.gsa) THAT Qxb6618869aProg.lean LOADS. Nothing in Lean hashes anything: it is a label: what it is worth is what the hold of that sum in a sandbox is worth. -/
noncomputable def Try.pinned : Pinned := { name := "qxb6618869a", sum := "9df0b09158d02f88d28665d6cd052223f4faec404839560679ce352334872fef", checked := Try.checked }
namespace Rows
def none {H : Type} : Left H := { results := [], args := [] }

/-- 'zzlaws_graphics_b1.FnIsLoadOnlyFourOneByteWords': WHATEVER THE INPUT: true; the input reads as it did. -/
def fnIsLoadOnlyFourOneByteWordsSpec : ChangeSpec := { name := "fnIsLoadOnlyFourOneByteWords", fn := fun _ => fun
  | [d] => { results := [.lit (.bool true)], args := [d] }
  | _ => none }
def fnIsLoadOnlyFourOneByteWordsRow : OpenClaim := { program := "qxb6618869a", sum := "9df0b09158d02f88d28665d6cd052223f4faec404839560679ce352334872fef", func := "example.com/escapade/escapade/zzlaws_graphics_b1.FnIsLoadOnlyFourOneByteWords", spec := "fnIsLoadOnlyFourOneByteWords", apart := false }
def FnIsLoadOnlyFourOneByteWordsSaid : Prop := fnIsLoadOnlyFourOneByteWordsRow.holds Try.pinned (OpenSpec.ofChange fnIsLoadOnlyFourOneByteWordsSpec)

/-- ITS FALSE NEIGHBOUR: 'it returns false'. Refute it at one input. -/
def fnIsLoadOnlyFourOneByteWordsWrong : ChangeSpec := { name := "fnIsLoadOnlyFourOneByteWords", fn := fun _ => fun
  | [d] => { results := [.lit (.bool false)], args := [d] }
  | _ => none }
def FnIsLoadOnlyFourOneByteWordsWrongFalsely : Prop := fnIsLoadOnlyFourOneByteWordsRow.holds Try.pinned (OpenSpec.ofChange fnIsLoadOnlyFourOneByteWordsWrong)

end Rows
end Go.Proofs.Qxb6618869a
