/-
  No cell of these rows narrows 'for every input' (looked for: loops, veiled, ifaces, maps, wideKeys, modest, calm, conditions, laid).
  DERIVED. THE GIVEN ROWS OF THIS SEAT. 1 by the template 'for every input the law returns true; each argument reads behind the call as it read before'; 0 by the template 'total and deterministic' (their statements: Qxb6617546aTotals.lean).
  GIVEN WITH THE SEED: the statements are not yours to turn. If you find one false, say at which input.
  Laid BY PROGRAM, IN A SANDBOX (cutbox-rows.mjs): the forced cells as the released guide's own fill.sh prints them over the translation 1b29c08d4a510528… (all of the seat's roots in one cut). By AI agents, Wed Nov 11 2026. No macro, syntax, notation, axiom, sorry.
-/
import Derived.Test.Qxb6617546aChecked
import GoSem.Claim
import GoSem.ClaimJoined
import GoSem.ClaimMapViews
import Derived.JoinedTies
import Derived.KernelRfl
namespace Go.Proofs.Qxb6617546a
/- THE CELL 'sum', in the pinned program and in every row, IS THE sha256 OF THE DUMP (.gsa) THAT Qxb6617546aProg.lean LOADS. Nothing in Lean hashes anything: it is a label: what it is worth is what the hold of that sum in a sandbox is worth. -/
noncomputable def Try.pinned : Pinned := { name := "qxb6617546a", sum := "1b29c08d4a5105282938637346d6e8a25fa344941b51e06858d30dfd8cb4f1b4", checked := Try.checked }
namespace Rows
def none {H : Type} : Left H := { results := [], args := [] }

/-- 'zzlaws_pkg_config_b1.FnOrChainIsFirstNonEmpty': WHATEVER THE INPUT: true; the input reads as it did. -/
def fnOrChainIsFirstNonEmptySpec : ChangeSpec := { name := "fnOrChainIsFirstNonEmpty", fn := fun _ => fun
  | [d1, d2] => { results := [.lit (.bool true)], args := [d1, d2] }
  | _ => none }
def fnOrChainIsFirstNonEmptyRow : OpenClaim := { program := "qxb6617546a", sum := "1b29c08d4a5105282938637346d6e8a25fa344941b51e06858d30dfd8cb4f1b4", func := "example.com/credd/credd/zzlaws_pkg_config_b1.FnOrChainIsFirstNonEmpty", spec := "fnOrChainIsFirstNonEmpty", apart := false }
def FnOrChainIsFirstNonEmptySaid : Prop := fnOrChainIsFirstNonEmptyRow.holds Try.pinned (OpenSpec.ofChange fnOrChainIsFirstNonEmptySpec)

/-- ITS FALSE NEIGHBOUR: 'it returns false'. Refute it at one input. -/
def fnOrChainIsFirstNonEmptyWrong : ChangeSpec := { name := "fnOrChainIsFirstNonEmpty", fn := fun _ => fun
  | [d1, d2] => { results := [.lit (.bool false)], args := [d1, d2] }
  | _ => none }
def FnOrChainIsFirstNonEmptyWrongFalsely : Prop := fnOrChainIsFirstNonEmptyRow.holds Try.pinned (OpenSpec.ofChange fnOrChainIsFirstNonEmptyWrong)

end Rows
end Go.Proofs.Qxb6617546a
