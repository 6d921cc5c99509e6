/-
  No cell of these rows narrows 'for every input' (looked for: loops, veiled, ifaces, maps, wideKeys, modest, calm, conditions, laid).
  DERIVED. THE GIVEN ROWS OF THIS SEAT. 2 by the template 'for every input the law returns true; each argument reads behind the call as it read before'; 0 by the template 'total and deterministic' (their statements: Qxb6621625aTotals.lean).
  GIVEN WITH THE SEED: the statements are not yours to turn. If you find one false, say at which input.
  Laid BY PROGRAM, IN A SANDBOX (cutbox-rows.mjs): the forced cells as the released guide's own fill.sh prints them over the translation 96469cedee0e6e65… (all of the seat's roots in one cut). By AI agents, Wed Nov 11 2026. No macro, syntax, notation, axiom, sorry.
-/
import Derived.Test.Qxb6621625aChecked
import GoSem.Claim
import GoSem.ClaimJoined
import GoSem.ClaimMapViews
import Derived.JoinedTies
import Derived.KernelRfl
namespace Go.Proofs.Qxb6621625a
/- THE CELL 'sum', in the pinned program and in every row, IS THE sha256 OF THE DUMP (.gsa) THAT Qxb6621625aProg.lean LOADS. Nothing in Lean hashes anything: it is a label: what it is worth is what the hold of that sum in a sandbox is worth. -/
noncomputable def Try.pinned : Pinned := { name := "qxb6621625a", sum := "96469cedee0e6e65198986a0280aee5bcfe69dc3ab2861ad9458d390de011b43", checked := Try.checked }
namespace Rows
def none {H : Type} : Left H := { results := [], args := [] }

/-- 'zzlaws_activation_b1.FnLegendreMatchesChebyshevExpansion': WHATEVER THE INPUT: true; the input reads as it did. -/
def fnLegendreMatchesChebyshevExpansionSpec : ChangeSpec := { name := "fnLegendreMatchesChebyshevExpansion", fn := fun _ => fun
  | [d1, d2] => { results := [.lit (.bool true)], args := [d1, d2] }
  | _ => none }
def fnLegendreMatchesChebyshevExpansionRow : OpenClaim := { program := "qxb6621625a", sum := "96469cedee0e6e65198986a0280aee5bcfe69dc3ab2861ad9458d390de011b43", func := "example.com/nox-train/nox-train/zzlaws_activation_b1.FnLegendreMatchesChebyshevExpansion", spec := "fnLegendreMatchesChebyshevExpansion", apart := false }
def FnLegendreMatchesChebyshevExpansionSaid : Prop := fnLegendreMatchesChebyshevExpansionRow.holds Try.pinned (OpenSpec.ofChange fnLegendreMatchesChebyshevExpansionSpec)

/-- ITS FALSE NEIGHBOUR: 'it returns false'. Refute it at one input. -/
def fnLegendreMatchesChebyshevExpansionWrong : ChangeSpec := { name := "fnLegendreMatchesChebyshevExpansion", fn := fun _ => fun
  | [d1, d2] => { results := [.lit (.bool false)], args := [d1, d2] }
  | _ => none }
def FnLegendreMatchesChebyshevExpansionWrongFalsely : Prop := fnLegendreMatchesChebyshevExpansionRow.holds Try.pinned (OpenSpec.ofChange fnLegendreMatchesChebyshevExpansionWrong)

/-- 'zzlaws_activation_b1.FnLegendreExactSymmetries': WHATEVER THE INPUT: true; the input reads as it did. -/
def fnLegendreExactSymmetriesSpec : ChangeSpec := { name := "fnLegendreExactSymmetries", fn := fun _ => fun
  | [d1, d2] => { results := [.lit (.bool true)], args := [d1, d2] }
  | _ => none }
def fnLegendreExactSymmetriesRow : OpenClaim := { program := "qxb6621625a", sum := "96469cedee0e6e65198986a0280aee5bcfe69dc3ab2861ad9458d390de011b43", func := "example.com/nox-train/nox-train/zzlaws_activation_b1.FnLegendreExactSymmetries", spec := "fnLegendreExactSymmetries", apart := false }
def FnLegendreExactSymmetriesSaid : Prop := fnLegendreExactSymmetriesRow.holds Try.pinned (OpenSpec.ofChange fnLegendreExactSymmetriesSpec)

/-- ITS FALSE NEIGHBOUR: 'it returns false'. Refute it at one input. -/
def fnLegendreExactSymmetriesWrong : ChangeSpec := { name := "fnLegendreExactSymmetries", fn := fun _ => fun
  | [d1, d2] => { results := [.lit (.bool false)], args := [d1, d2] }
  | _ => none }
def FnLegendreExactSymmetriesWrongFalsely : Prop := fnLegendreExactSymmetriesRow.holds Try.pinned (OpenSpec.ofChange fnLegendreExactSymmetriesWrong)

end Rows
end Go.Proofs.Qxb6621625a
