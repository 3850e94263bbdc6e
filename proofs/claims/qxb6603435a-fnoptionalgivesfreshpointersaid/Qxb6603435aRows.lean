/-
  No cell of these rows narrows 'for every input' (looked for: loops, veiled, ifaces, maps, wideKeys, modest, calm, conditions, laid).
  DERIVED. THE GIVEN ROWS OF THIS SEAT. 1 by the template 'for every input the law returns true; each argument reads behind the call as it read before'; 0 by the template 'total and deterministic' (their statements: Qxb6603435aTotals.lean).
  GIVEN WITH THE SEED: the statements are not yours to turn. If you find one false, say at which input.
  Laid BY PROGRAM, IN A SANDBOX (cutbox-rows.mjs): the forced cells as the released guide's own fill.sh prints them over the translation 03dc13090dfda16d… (all of the seat's roots in one cut). By AI agents, Wed Nov 11 2026. No macro, syntax, notation, axiom, sorry.
-/
import Derived.Test.Qxb6603435aChecked
import GoSem.Claim
import GoSem.ClaimJoined
import GoSem.ClaimMapViews
import Derived.JoinedTies
import Derived.KernelRfl
namespace Go.Proofs.Qxb6603435a
/- THE CELL 'sum', in the pinned program and in every row, IS THE sha256 OF THE DUMP (.gsa) THAT Qxb6603435aProg.lean LOADS. Nothing in Lean hashes anything: it is a label: what it is worth is what the hold of that sum in a sandbox is worth. -/
noncomputable def Try.pinned : Pinned := { name := "qxb6603435a", sum := "03dc13090dfda16d307f0a5b08e187403df2b35451f90c35bc8b79c2d53a4518", checked := Try.checked }
namespace Rows
def none {H : Type} : Left H := { results := [], args := [] }

/-- 'zzlaws_internal_api_b1.FnOptionalGivesFreshPointer': WHATEVER THE INPUT: true; the input reads as it did. -/
def fnOptionalGivesFreshPointerSpec : ChangeSpec := { name := "fnOptionalGivesFreshPointer", fn := fun _ => fun
  | [d] => { results := [.lit (.bool true)], args := [d] }
  | _ => none }
def fnOptionalGivesFreshPointerRow : OpenClaim := { program := "qxb6603435a", sum := "03dc13090dfda16d307f0a5b08e187403df2b35451f90c35bc8b79c2d53a4518", func := "example.com/scopelatch/scopelatch/zzlaws_internal_api_b1.FnOptionalGivesFreshPointer", spec := "fnOptionalGivesFreshPointer", apart := false }
def FnOptionalGivesFreshPointerSaid : Prop := fnOptionalGivesFreshPointerRow.holds Try.pinned (OpenSpec.ofChange fnOptionalGivesFreshPointerSpec)

/-- ITS FALSE NEIGHBOUR: 'it returns false'. Refute it at one input. -/
def fnOptionalGivesFreshPointerWrong : ChangeSpec := { name := "fnOptionalGivesFreshPointer", fn := fun _ => fun
  | [d] => { results := [.lit (.bool false)], args := [d] }
  | _ => none }
def FnOptionalGivesFreshPointerWrongFalsely : Prop := fnOptionalGivesFreshPointerRow.holds Try.pinned (OpenSpec.ofChange fnOptionalGivesFreshPointerWrong)

end Rows
end Go.Proofs.Qxb6603435a
