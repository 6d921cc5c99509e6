/-
  No cell of these rows narrows 'for every input' (looked for: loops, veiled, ifaces, maps, wideKeys, modest, calm, conditions, laid).
  DERIVED. THE GIVEN ROWS OF THIS SEAT. 1 by the template 'for every input the law returns true; each argument reads behind the call as it read before'; 0 by the template 'total and deterministic' (their statements: Qxb6617315aTotals.lean).
  GIVEN WITH THE SEED: the statements are not yours to turn. If you find one false, say at which input.
  Laid BY PROGRAM, IN A SANDBOX (cutbox-rows.mjs): the forced cells as the released guide's own fill.sh prints them over the translation 4b2b07750ca400f6… (all of the seat's roots in one cut). By AI agents, Wed Nov 11 2026. No macro, syntax, notation, axiom, sorry.
-/
import Derived.Test.Qxb6617315aChecked
import GoSem.Claim
import GoSem.ClaimJoined
import GoSem.ClaimMapViews
import Derived.JoinedTies
import Derived.KernelRfl
namespace Go.Proofs.Qxb6617315a
/- THE CELL 'sum', in the pinned program and in every row, IS THE sha256 OF THE DUMP (.gsa) THAT Qxb6617315aProg.lean LOADS. Nothing in Lean hashes anything: it is a label: what it is worth is what the hold of that sum in a sandbox is worth. -/
noncomputable def Try.pinned : Pinned := { name := "qxb6617315a", sum := "4b2b07750ca400f6979799740bd31ebcf62d1108778e99160ebad17b43335366", checked := Try.checked }
namespace Rows
def none {H : Type} : Left H := { results := [], args := [] }

/-- 'zzlaws_pkg_jcs_b1.FnFirstUnitIsUTF16LeadAndOrdersAsUTF16': WHATEVER THE INPUT: true; the input reads as it did. -/
def fnFirstUnitIsUTF16LeadAndOrdersAsUTF16Spec : ChangeSpec := { name := "fnFirstUnitIsUTF16LeadAndOrdersAsUTF16", fn := fun _ => fun
  | [d1, d2] => { results := [.lit (.bool true)], args := [d1, d2] }
  | _ => none }
def fnFirstUnitIsUTF16LeadAndOrdersAsUTF16Row : OpenClaim := { program := "qxb6617315a", sum := "4b2b07750ca400f6979799740bd31ebcf62d1108778e99160ebad17b43335366", func := "example.com/lading/lading/zzlaws_pkg_jcs_b1.FnFirstUnitIsUTF16LeadAndOrdersAsUTF16", spec := "fnFirstUnitIsUTF16LeadAndOrdersAsUTF16", apart := false }
def FnFirstUnitIsUTF16LeadAndOrdersAsUTF16Said : Prop := fnFirstUnitIsUTF16LeadAndOrdersAsUTF16Row.holds Try.pinned (OpenSpec.ofChange fnFirstUnitIsUTF16LeadAndOrdersAsUTF16Spec)

/-- ITS FALSE NEIGHBOUR: 'it returns false'. Refute it at one input. -/
def fnFirstUnitIsUTF16LeadAndOrdersAsUTF16Wrong : ChangeSpec := { name := "fnFirstUnitIsUTF16LeadAndOrdersAsUTF16", fn := fun _ => fun
  | [d1, d2] => { results := [.lit (.bool false)], args := [d1, d2] }
  | _ => none }
def FnFirstUnitIsUTF16LeadAndOrdersAsUTF16WrongFalsely : Prop := fnFirstUnitIsUTF16LeadAndOrdersAsUTF16Row.holds Try.pinned (OpenSpec.ofChange fnFirstUnitIsUTF16LeadAndOrdersAsUTF16Wrong)

end Rows
end Go.Proofs.Qxb6617315a
