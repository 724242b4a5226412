/-
  No cell of these rows narrows 'for every input' (looked for: loops, veiled, ifaces, maps, wideKeys, modest, calm, conditions, laid).
  DERIVED. THE GIVEN ROWS OF THIS SEAT. 3 by the template 'for every input the law returns true; each argument reads behind the call as it read before'; 0 by the template 'total and deterministic' (their statements: Qxb6002395aTotals.lean).
  GIVEN WITH THE SEED: the statements are not yours to turn. If you find one false, say at which input.
  Laid BY PROGRAM, IN A SANDBOX (cutbox-rows.mjs): the forced cells as the released guide's own fill.sh prints them over the translation 15fc6496632cf0aa… (all of the seat's roots in one cut). By AI agents, Wed Nov 11 2026. No macro, syntax, notation, axiom, sorry.
-/
import Derived.Test.Qxb6002395aChecked
import GoSem.Claim
import GoSem.ClaimJoined
import GoSem.ClaimMapViews
import Derived.JoinedTies
import Derived.KernelRfl
namespace Go.Proofs.Qxb6002395a
/- THE CELL 'sum', in the pinned program and in every row, IS THE sha256 OF THE DUMP (.gsa) THAT Qxb6002395aProg.lean LOADS. Nothing in Lean hashes anything: it is a label: what it is worth is what the hold of that sum in a sandbox is worth. -/
noncomputable def Try.pinned : Pinned := { name := "qxb6002395a", sum := "15fc6496632cf0aac9c2ee8e666950a6dd422495468d3a1bf3f2b643f6c79b5e", checked := Try.checked }
namespace Rows
def none {H : Type} : Left H := { results := [], args := [] }

/-- 'zzlaws_internal_bench_g1.FnTurnsIsPermutation': WHATEVER THE INPUT: true; the input reads as it did. -/
def fnTurnsIsPermutationSpec : ChangeSpec := { name := "fnTurnsIsPermutation", fn := fun _ => fun
  | [d1, d2] => { results := [.lit (.bool true)], args := [d1, d2] }
  | _ => none }
def fnTurnsIsPermutationRow : OpenClaim := { program := "qxb6002395a", sum := "15fc6496632cf0aac9c2ee8e666950a6dd422495468d3a1bf3f2b643f6c79b5e", func := "example.com/windown/windown/zzlaws_internal_bench_g1.FnTurnsIsPermutation", spec := "fnTurnsIsPermutation", apart := false }
def FnTurnsIsPermutationSaid : Prop := fnTurnsIsPermutationRow.holds Try.pinned (OpenSpec.ofChange fnTurnsIsPermutationSpec)

/-- ITS FALSE NEIGHBOUR: 'it returns false'. Refute it at one input. -/
def fnTurnsIsPermutationWrong : ChangeSpec := { name := "fnTurnsIsPermutation", fn := fun _ => fun
  | [d1, d2] => { results := [.lit (.bool false)], args := [d1, d2] }
  | _ => none }
def FnTurnsIsPermutationWrongFalsely : Prop := fnTurnsIsPermutationRow.holds Try.pinned (OpenSpec.ofChange fnTurnsIsPermutationWrong)

/-- 'zzlaws_internal_bench_g1.FnTurnsNextSetIsRotation': WHATEVER THE INPUT: true; the input reads as it did. -/
def fnTurnsNextSetIsRotationSpec : ChangeSpec := { name := "fnTurnsNextSetIsRotation", fn := fun _ => fun
  | [d1, d2] => { results := [.lit (.bool true)], args := [d1, d2] }
  | _ => none }
def fnTurnsNextSetIsRotationRow : OpenClaim := { program := "qxb6002395a", sum := "15fc6496632cf0aac9c2ee8e666950a6dd422495468d3a1bf3f2b643f6c79b5e", func := "example.com/windown/windown/zzlaws_internal_bench_g1.FnTurnsNextSetIsRotation", spec := "fnTurnsNextSetIsRotation", apart := false }
def FnTurnsNextSetIsRotationSaid : Prop := fnTurnsNextSetIsRotationRow.holds Try.pinned (OpenSpec.ofChange fnTurnsNextSetIsRotationSpec)

/-- ITS FALSE NEIGHBOUR: 'it returns false'. Refute it at one input. -/
def fnTurnsNextSetIsRotationWrong : ChangeSpec := { name := "fnTurnsNextSetIsRotation", fn := fun _ => fun
  | [d1, d2] => { results := [.lit (.bool false)], args := [d1, d2] }
  | _ => none }
def FnTurnsNextSetIsRotationWrongFalsely : Prop := fnTurnsNextSetIsRotationRow.holds Try.pinned (OpenSpec.ofChange fnTurnsNextSetIsRotationWrong)

/-- 'zzlaws_internal_bench_g1.FnTurnsLatinSquare': WHATEVER THE INPUT: true; the input reads as it did. -/
def fnTurnsLatinSquareSpec : ChangeSpec := { name := "fnTurnsLatinSquare", fn := fun _ => fun
  | [d1, d2] => { results := [.lit (.bool true)], args := [d1, d2] }
  | _ => none }
def fnTurnsLatinSquareRow : OpenClaim := { program := "qxb6002395a", sum := "15fc6496632cf0aac9c2ee8e666950a6dd422495468d3a1bf3f2b643f6c79b5e", func := "example.com/windown/windown/zzlaws_internal_bench_g1.FnTurnsLatinSquare", spec := "fnTurnsLatinSquare", apart := false }
def FnTurnsLatinSquareSaid : Prop := fnTurnsLatinSquareRow.holds Try.pinned (OpenSpec.ofChange fnTurnsLatinSquareSpec)

/-- ITS FALSE NEIGHBOUR: 'it returns false'. Refute it at one input. -/
def fnTurnsLatinSquareWrong : ChangeSpec := { name := "fnTurnsLatinSquare", fn := fun _ => fun
  | [d1, d2] => { results := [.lit (.bool false)], args := [d1, d2] }
  | _ => none }
def FnTurnsLatinSquareWrongFalsely : Prop := fnTurnsLatinSquareRow.holds Try.pinned (OpenSpec.ofChange fnTurnsLatinSquareWrong)

end Rows
end Go.Proofs.Qxb6002395a
