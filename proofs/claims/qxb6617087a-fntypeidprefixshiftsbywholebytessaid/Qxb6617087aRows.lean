/-
  No cell of these rows narrows 'for every input' (looked for: loops, veiled, ifaces, maps, wideKeys, modest, calm, conditions, laid).
  DERIVED. THE GIVEN ROWS OF THIS SEAT. 2 by the template 'for every input the law returns true; each argument reads behind the call as it read before'; 0 by the template 'total and deterministic' (their statements: Qxb6617087aTotals.lean).
  GIVEN WITH THE SEED: the statements are not yours to turn. If you find one false, say at which input.
  Laid BY PROGRAM, IN A SANDBOX (cutbox-rows.mjs): the forced cells as the released guide's own fill.sh prints them over the translation 8919be33ff33e4e4… (all of the seat's roots in one cut). By AI agents, Wed Nov 11 2026. No macro, syntax, notation, axiom, sorry.
-/
import Derived.Test.Qxb6617087aChecked
import GoSem.Claim
import GoSem.ClaimJoined
import GoSem.ClaimMapViews
import Derived.JoinedTies
import Derived.KernelRfl
namespace Go.Proofs.Qxb6617087a
/- THE CELL 'sum', in the pinned program and in every row, IS THE sha256 OF THE DUMP (.gsa) THAT Qxb6617087aProg.lean LOADS. Nothing in Lean hashes anything: it is a label: what it is worth is what the hold of that sum in a sandbox is worth. -/
noncomputable def Try.pinned : Pinned := { name := "qxb6617087a", sum := "8919be33ff33e4e4d1693dcb4e14b75f047c40fcd9193cac3f33c75c30059065", checked := Try.checked }
namespace Rows
def none {H : Type} : Left H := { results := [], args := [] }

/-- 'zzlaws_internal_enc_b1.FnTypeIDPrefixDecodesAndKeepsOrder': WHATEVER THE INPUT: true; the input reads as it did. -/
def fnTypeIDPrefixDecodesAndKeepsOrderSpec : ChangeSpec := { name := "fnTypeIDPrefixDecodesAndKeepsOrder", fn := fun _ => fun
  | [d1, d2] => { results := [.lit (.bool true)], args := [d1, d2] }
  | _ => none }
def fnTypeIDPrefixDecodesAndKeepsOrderRow : OpenClaim := { program := "qxb6617087a", sum := "8919be33ff33e4e4d1693dcb4e14b75f047c40fcd9193cac3f33c75c30059065", func := "example.com/murkle/murkle/zzlaws_internal_enc_b1.FnTypeIDPrefixDecodesAndKeepsOrder", spec := "fnTypeIDPrefixDecodesAndKeepsOrder", apart := false }
def FnTypeIDPrefixDecodesAndKeepsOrderSaid : Prop := fnTypeIDPrefixDecodesAndKeepsOrderRow.holds Try.pinned (OpenSpec.ofChange fnTypeIDPrefixDecodesAndKeepsOrderSpec)

/-- ITS FALSE NEIGHBOUR: 'it returns false'. Refute it at one input. -/
def fnTypeIDPrefixDecodesAndKeepsOrderWrong : ChangeSpec := { name := "fnTypeIDPrefixDecodesAndKeepsOrder", fn := fun _ => fun
  | [d1, d2] => { results := [.lit (.bool false)], args := [d1, d2] }
  | _ => none }
def FnTypeIDPrefixDecodesAndKeepsOrderWrongFalsely : Prop := fnTypeIDPrefixDecodesAndKeepsOrderRow.holds Try.pinned (OpenSpec.ofChange fnTypeIDPrefixDecodesAndKeepsOrderWrong)

/-- 'zzlaws_internal_enc_b1.FnTypeIDPrefixShiftsByWholeBytes': WHATEVER THE INPUT: true; the input reads as it did. -/
def fnTypeIDPrefixShiftsByWholeBytesSpec : ChangeSpec := { name := "fnTypeIDPrefixShiftsByWholeBytes", fn := fun _ => fun
  | [d] => { results := [.lit (.bool true)], args := [d] }
  | _ => none }
def fnTypeIDPrefixShiftsByWholeBytesRow : OpenClaim := { program := "qxb6617087a", sum := "8919be33ff33e4e4d1693dcb4e14b75f047c40fcd9193cac3f33c75c30059065", func := "example.com/murkle/murkle/zzlaws_internal_enc_b1.FnTypeIDPrefixShiftsByWholeBytes", spec := "fnTypeIDPrefixShiftsByWholeBytes", apart := false }
def FnTypeIDPrefixShiftsByWholeBytesSaid : Prop := fnTypeIDPrefixShiftsByWholeBytesRow.holds Try.pinned (OpenSpec.ofChange fnTypeIDPrefixShiftsByWholeBytesSpec)

/-- ITS FALSE NEIGHBOUR: 'it returns false'. Refute it at one input. -/
def fnTypeIDPrefixShiftsByWholeBytesWrong : ChangeSpec := { name := "fnTypeIDPrefixShiftsByWholeBytes", fn := fun _ => fun
  | [d] => { results := [.lit (.bool false)], args := [d] }
  | _ => none }
def FnTypeIDPrefixShiftsByWholeBytesWrongFalsely : Prop := fnTypeIDPrefixShiftsByWholeBytesRow.holds Try.pinned (OpenSpec.ofChange fnTypeIDPrefixShiftsByWholeBytesWrong)

end Rows
end Go.Proofs.Qxb6617087a
