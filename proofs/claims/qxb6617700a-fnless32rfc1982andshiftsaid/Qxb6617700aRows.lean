/-
  No cell of these rows narrows 'for every input' (looked for: loops, veiled, ifaces, maps, wideKeys, modest, calm, conditions, laid).
  DERIVED. THE GIVEN ROWS OF THIS SEAT. 2 by the template 'for every input the law returns true; each argument reads behind the call as it read before'; 0 by the template 'total and deterministic' (their statements: Qxb6617700aTotals.lean).
  GIVEN WITH THE SEED: the statements are not yours to turn. If you find one false, say at which input.
  Laid BY PROGRAM, IN A SANDBOX (cutbox-rows.mjs): the forced cells as the released guide's own fill.sh prints them over the translation d907fa70a30e3fca… (all of the seat's roots in one cut). By AI agents, Wed Nov 11 2026. No macro, syntax, notation, axiom, sorry.
-/
import Derived.Test.Qxb6617700aChecked
import GoSem.Claim
import GoSem.ClaimJoined
import GoSem.ClaimMapViews
import Derived.JoinedTies
import Derived.KernelRfl
namespace Go.Proofs.Qxb6617700a
/- THE CELL 'sum', in the pinned program and in every row, IS THE sha256 OF THE DUMP (.gsa) THAT Qxb6617700aProg.lean LOADS. Nothing in Lean hashes anything: it is a label: what it is worth is what the hold of that sum in a sandbox is worth. -/
noncomputable def Try.pinned : Pinned := { name := "qxb6617700a", sum := "d907fa70a30e3fca78e2a30022af4b57d7f720ecfaf0ae232439f2977b6cd322", checked := Try.checked }
namespace Rows
def none {H : Type} : Left H := { results := [], args := [] }

/-- 'zzlaws_root_b1.FnLess32RFC1982AndShift': WHATEVER THE INPUT: true; the input reads as it did. -/
def fnLess32RFC1982AndShiftSpec : ChangeSpec := { name := "fnLess32RFC1982AndShift", fn := fun _ => fun
  | [d1, d2, d3] => { results := [.lit (.bool true)], args := [d1, d2, d3] }
  | _ => none }
def fnLess32RFC1982AndShiftRow : OpenClaim := { program := "qxb6617700a", sum := "d907fa70a30e3fca78e2a30022af4b57d7f720ecfaf0ae232439f2977b6cd322", func := "example.com/wrapwise/wrapwise/zzlaws_root_b1.FnLess32RFC1982AndShift", spec := "fnLess32RFC1982AndShift", apart := false }
def FnLess32RFC1982AndShiftSaid : Prop := fnLess32RFC1982AndShiftRow.holds Try.pinned (OpenSpec.ofChange fnLess32RFC1982AndShiftSpec)

/-- ITS FALSE NEIGHBOUR: 'it returns false'. Refute it at one input. -/
def fnLess32RFC1982AndShiftWrong : ChangeSpec := { name := "fnLess32RFC1982AndShift", fn := fun _ => fun
  | [d1, d2, d3] => { results := [.lit (.bool false)], args := [d1, d2, d3] }
  | _ => none }
def FnLess32RFC1982AndShiftWrongFalsely : Prop := fnLess32RFC1982AndShiftRow.holds Try.pinned (OpenSpec.ofChange fnLess32RFC1982AndShiftWrong)

/-- 'zzlaws_root_b1.FnLess32Trichotomy': WHATEVER THE INPUT: true; the input reads as it did. -/
def fnLess32TrichotomySpec : ChangeSpec := { name := "fnLess32Trichotomy", fn := fun _ => fun
  | [d1, d2] => { results := [.lit (.bool true)], args := [d1, d2] }
  | _ => none }
def fnLess32TrichotomyRow : OpenClaim := { program := "qxb6617700a", sum := "d907fa70a30e3fca78e2a30022af4b57d7f720ecfaf0ae232439f2977b6cd322", func := "example.com/wrapwise/wrapwise/zzlaws_root_b1.FnLess32Trichotomy", spec := "fnLess32Trichotomy", apart := false }
def FnLess32TrichotomySaid : Prop := fnLess32TrichotomyRow.holds Try.pinned (OpenSpec.ofChange fnLess32TrichotomySpec)

/-- ITS FALSE NEIGHBOUR: 'it returns false'. Refute it at one input. -/
def fnLess32TrichotomyWrong : ChangeSpec := { name := "fnLess32Trichotomy", fn := fun _ => fun
  | [d1, d2] => { results := [.lit (.bool false)], args := [d1, d2] }
  | _ => none }
def FnLess32TrichotomyWrongFalsely : Prop := fnLess32TrichotomyRow.holds Try.pinned (OpenSpec.ofChange fnLess32TrichotomyWrong)

end Rows
end Go.Proofs.Qxb6617700a
