/-
  No cell of these rows narrows 'for every input' (looked for: loops, veiled, ifaces, maps, wideKeys, modest, calm, conditions, laid).
  DERIVED. THE GIVEN ROWS OF THIS SEAT. 2 by the template 'for every input the law returns true; each argument reads behind the call as it read before'; 0 by the template 'total and deterministic' (their statements: YoeftwTotals.lean).
  GIVEN WITH THE SEED: the statements are not yours to turn. If you find one false, say at which input.
  Laid BY PROGRAM, IN A SANDBOX (cutbox-rows.mjs): the forced cells as the released guide's own fill.sh prints them over the translation a4deaa4e95a7aa84… (all of the seat's roots in one cut). By AI agents, Wed Nov 11 2026. No macro, syntax, notation, axiom, sorry.
-/
import Derived.Test.YoeftwChecked
import GoSem.Claim
import GoSem.ClaimJoined
import GoSem.ClaimMapViews
import Derived.JoinedTies
import Derived.KernelRfl
namespace Go.Proofs.Yoeftw
/- THE CELL 'sum', in the pinned program and in every row, IS THE sha256 OF THE DUMP (.gsa) THAT YoeftwProg.lean LOADS. Nothing in Lean hashes anything: it is a label: what it is worth is what the hold of that sum in a sandbox is worth. -/
noncomputable def Eftg.pinned : Pinned := { name := "yoeftw", sum := "a4deaa4e95a7aa84230eb394bab2c8ec80e830d1a7346d1c4b509b4959ac2dc6", checked := Eftg.checked }
namespace Rows
def none {H : Type} : Left H := { results := [], args := [] }

/-- 'zzlaws_root_b1.FnMapEqualsMatchesDictionaryModel': WHATEVER THE INPUT: true; the input reads as it did. -/
def fnMapEqualsMatchesDictionaryModelSpec : ChangeSpec := { name := "fnMapEqualsMatchesDictionaryModel", fn := fun _ => fun
  | [d1, d2, d3, d4] => { results := [.lit (.bool true)], args := [d1, d2, d3, d4] }
  | _ => none }
def fnMapEqualsMatchesDictionaryModelRow : OpenClaim := { program := "yoeftw", sum := "a4deaa4e95a7aa84230eb394bab2c8ec80e830d1a7346d1c4b509b4959ac2dc6", func := "github.com/d5/tengo/v2/zzlaws_root_b1.FnMapEqualsMatchesDictionaryModel", spec := "fnMapEqualsMatchesDictionaryModel", unfollowed := true, recurses := true, apart := false }
def FnMapEqualsMatchesDictionaryModelSaid : Prop := fnMapEqualsMatchesDictionaryModelRow.holds Eftg.pinned (OpenSpec.ofChange fnMapEqualsMatchesDictionaryModelSpec)

/-- ITS FALSE NEIGHBOUR: 'it returns false'. Refute it at one input. -/
def fnMapEqualsMatchesDictionaryModelWrong : ChangeSpec := { name := "fnMapEqualsMatchesDictionaryModel", fn := fun _ => fun
  | [d1, d2, d3, d4] => { results := [.lit (.bool false)], args := [d1, d2, d3, d4] }
  | _ => none }
def FnMapEqualsMatchesDictionaryModelWrongFalsely : Prop := fnMapEqualsMatchesDictionaryModelRow.holds Eftg.pinned (OpenSpec.ofChange fnMapEqualsMatchesDictionaryModelWrong)

/-- 'zzlaws_root_b1.FnMapEqualsSymmetricCopyImmutable': WHATEVER THE INPUT: true; the input reads as it did. -/
def fnMapEqualsSymmetricCopyImmutableSpec : ChangeSpec := { name := "fnMapEqualsSymmetricCopyImmutable", fn := fun _ => fun
  | [d1, d2, d3, d4] => { results := [.lit (.bool true)], args := [d1, d2, d3, d4] }
  | _ => none }
def fnMapEqualsSymmetricCopyImmutableRow : OpenClaim := { program := "yoeftw", sum := "a4deaa4e95a7aa84230eb394bab2c8ec80e830d1a7346d1c4b509b4959ac2dc6", func := "github.com/d5/tengo/v2/zzlaws_root_b1.FnMapEqualsSymmetricCopyImmutable", spec := "fnMapEqualsSymmetricCopyImmutable", unfollowed := true, recurses := true, apart := false }
def FnMapEqualsSymmetricCopyImmutableSaid : Prop := fnMapEqualsSymmetricCopyImmutableRow.holds Eftg.pinned (OpenSpec.ofChange fnMapEqualsSymmetricCopyImmutableSpec)

/-- ITS FALSE NEIGHBOUR: 'it returns false'. Refute it at one input. -/
def fnMapEqualsSymmetricCopyImmutableWrong : ChangeSpec := { name := "fnMapEqualsSymmetricCopyImmutable", fn := fun _ => fun
  | [d1, d2, d3, d4] => { results := [.lit (.bool false)], args := [d1, d2, d3, d4] }
  | _ => none }
def FnMapEqualsSymmetricCopyImmutableWrongFalsely : Prop := fnMapEqualsSymmetricCopyImmutableRow.holds Eftg.pinned (OpenSpec.ofChange fnMapEqualsSymmetricCopyImmutableWrong)

end Rows
end Go.Proofs.Yoeftw
