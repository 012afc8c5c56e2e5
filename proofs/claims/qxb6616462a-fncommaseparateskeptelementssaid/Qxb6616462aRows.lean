/-
  No cell of these rows narrows 'for every input' (looked for: loops, veiled, ifaces, maps, wideKeys, modest, calm, conditions, laid).
  DERIVED. THE GIVEN ROWS OF THIS SEAT. 1 by the template 'for every input the law returns true; each argument reads behind the call as it read before'; 0 by the template 'total and deterministic' (their statements: Qxb6616462aTotals.lean).
  GIVEN WITH THE SEED: the statements are not yours to turn. If you find one false, say at which input.
  Laid BY PROGRAM, IN A SANDBOX (cutbox-rows.mjs): the forced cells as the released guide's own fill.sh prints them over the translation 43e2fe59ba05a182… (all of the seat's roots in one cut). By AI agents, Wed Nov 11 2026. No macro, syntax, notation, axiom, sorry.
-/
import Derived.Test.Qxb6616462aChecked
import GoSem.Claim
import GoSem.ClaimJoined
import GoSem.ClaimMapViews
import Derived.JoinedTies
import Derived.KernelRfl
namespace Go.Proofs.Qxb6616462a
/- THE CELL 'sum', in the pinned program and in every row, IS THE sha256 OF THE DUMP (.gsa) THAT Qxb6616462aProg.lean LOADS. Nothing in Lean hashes anything: it is a label: what it is worth is what the hold of that sum in a sandbox is worth. -/
noncomputable def Try.pinned : Pinned := { name := "qxb6616462a", sum := "43e2fe59ba05a182fe53b34d38cc69e767788cf0c869c4f74cb020507780d326", checked := Try.checked }
namespace Rows
def none {H : Type} : Left H := { results := [], args := [] }

/-- 'zzlaws_internal_jsonfilter_b1.FnCommaSeparatesKeptElements': WHATEVER THE INPUT: true; the input reads as it did. -/
def fnCommaSeparatesKeptElementsSpec : ChangeSpec := { name := "fnCommaSeparatesKeptElements", fn := fun _ => fun
  | [d1, d2, d3] => { results := [.lit (.bool true)], args := [d1, d2, d3] }
  | _ => none }
def fnCommaSeparatesKeptElementsRow : OpenClaim := { program := "qxb6616462a", sum := "43e2fe59ba05a182fe53b34d38cc69e767788cf0c869c4f74cb020507780d326", func := "example.com/keyward/keyward/zzlaws_internal_jsonfilter_b1.FnCommaSeparatesKeptElements", spec := "fnCommaSeparatesKeptElements", apart := false }
def FnCommaSeparatesKeptElementsSaid : Prop := fnCommaSeparatesKeptElementsRow.holds Try.pinned (OpenSpec.ofChange fnCommaSeparatesKeptElementsSpec)

/-- ITS FALSE NEIGHBOUR: 'it returns false'. Refute it at one input. -/
def fnCommaSeparatesKeptElementsWrong : ChangeSpec := { name := "fnCommaSeparatesKeptElements", fn := fun _ => fun
  | [d1, d2, d3] => { results := [.lit (.bool false)], args := [d1, d2, d3] }
  | _ => none }
def FnCommaSeparatesKeptElementsWrongFalsely : Prop := fnCommaSeparatesKeptElementsRow.holds Try.pinned (OpenSpec.ofChange fnCommaSeparatesKeptElementsWrong)

end Rows
end Go.Proofs.Qxb6616462a
