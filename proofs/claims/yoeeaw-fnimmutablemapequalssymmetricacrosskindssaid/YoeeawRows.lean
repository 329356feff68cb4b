/-
  No cell of these rows narrows 'for every input' (looked for: loops, veiled, ifaces, maps, wideKeys, modest, calm, conditions, laid).
  DERIVED. THE GIVEN ROWS OF THIS SEAT. 4 by the template 'for every input the law returns true; each argument reads behind the call as it read before'; 0 by the template 'total and deterministic' (their statements: YoeeawTotals.lean).
  GIVEN WITH THE SEED: the statements are not yours to turn. If you find one false, say at which input.
  Laid BY PROGRAM, IN A SANDBOX (cutbox-rows.mjs): the forced cells as the released guide's own fill.sh prints them over the translation 982acab318a4cd45… (all of the seat's roots in one cut). By AI agents, Wed Nov 11 2026. No macro, syntax, notation, axiom, sorry.
-/
import Derived.Test.YoeeawChecked
import GoSem.Claim
import GoSem.ClaimJoined
import GoSem.ClaimMapViews
import Derived.JoinedTies
import Derived.KernelRfl
namespace Go.Proofs.Yoeeaw
/- THE CELL 'sum', in the pinned program and in every row, IS THE sha256 OF THE DUMP (.gsa) THAT YoeeawProg.lean LOADS. Nothing in Lean hashes anything: it is a label: what it is worth is what the hold of that sum in a sandbox is worth. -/
noncomputable def Eeag.pinned : Pinned := { name := "yoeeaw", sum := "982acab318a4cd455dfe052b5e0ffe7455cf6531fb44e797c37236e1122eb35c", checked := Eeag.checked }
namespace Rows
def none {H : Type} : Left H := { results := [], args := [] }

/-- 'zzlaws_root_b3.FnImmutableMapIsFalsyExact': WHATEVER THE INPUT: true; the input reads as it did. -/
def fnImmutableMapIsFalsyExactSpec : ChangeSpec := { name := "fnImmutableMapIsFalsyExact", fn := fun _ => fun
  | [d1, d2] => { results := [.lit (.bool true)], args := [d1, d2] }
  | _ => none }
def fnImmutableMapIsFalsyExactRow : OpenClaim := { program := "yoeeaw", sum := "982acab318a4cd455dfe052b5e0ffe7455cf6531fb44e797c37236e1122eb35c", func := "github.com/d5/tengo/v2/zzlaws_root_b3.FnImmutableMapIsFalsyExact", spec := "fnImmutableMapIsFalsyExact", apart := false }
def FnImmutableMapIsFalsyExactSaid : Prop := fnImmutableMapIsFalsyExactRow.holds Eeag.pinned (OpenSpec.ofChange fnImmutableMapIsFalsyExactSpec)

/-- ITS FALSE NEIGHBOUR: 'it returns false'. Refute it at one input. -/
def fnImmutableMapIsFalsyExactWrong : ChangeSpec := { name := "fnImmutableMapIsFalsyExact", fn := fun _ => fun
  | [d1, d2] => { results := [.lit (.bool false)], args := [d1, d2] }
  | _ => none }
def FnImmutableMapIsFalsyExactWrongFalsely : Prop := fnImmutableMapIsFalsyExactRow.holds Eeag.pinned (OpenSpec.ofChange fnImmutableMapIsFalsyExactWrong)

/-- 'zzlaws_root_b3.FnImmutableMapIsFalsyAgrees': WHATEVER THE INPUT: true; the input reads as it did. -/
def fnImmutableMapIsFalsyAgreesSpec : ChangeSpec := { name := "fnImmutableMapIsFalsyAgrees", fn := fun _ => fun
  | [d1, d2] => { results := [.lit (.bool true)], args := [d1, d2] }
  | _ => none }
def fnImmutableMapIsFalsyAgreesRow : OpenClaim := { program := "yoeeaw", sum := "982acab318a4cd455dfe052b5e0ffe7455cf6531fb44e797c37236e1122eb35c", func := "github.com/d5/tengo/v2/zzlaws_root_b3.FnImmutableMapIsFalsyAgrees", spec := "fnImmutableMapIsFalsyAgrees", unfollowed := true, recurses := true, apart := false }
def FnImmutableMapIsFalsyAgreesSaid : Prop := fnImmutableMapIsFalsyAgreesRow.holds Eeag.pinned (OpenSpec.ofChange fnImmutableMapIsFalsyAgreesSpec)

/-- ITS FALSE NEIGHBOUR: 'it returns false'. Refute it at one input. -/
def fnImmutableMapIsFalsyAgreesWrong : ChangeSpec := { name := "fnImmutableMapIsFalsyAgrees", fn := fun _ => fun
  | [d1, d2] => { results := [.lit (.bool false)], args := [d1, d2] }
  | _ => none }
def FnImmutableMapIsFalsyAgreesWrongFalsely : Prop := fnImmutableMapIsFalsyAgreesRow.holds Eeag.pinned (OpenSpec.ofChange fnImmutableMapIsFalsyAgreesWrong)

/-- 'zzlaws_root_b3.FnImmutableMapEqualsMatchesModel': WHATEVER THE INPUT: true; the input reads as it did. -/
def fnImmutableMapEqualsMatchesModelSpec : ChangeSpec := { name := "fnImmutableMapEqualsMatchesModel", fn := fun _ => fun
  | [d1, d2, d3, d4] => { results := [.lit (.bool true)], args := [d1, d2, d3, d4] }
  | _ => none }
def fnImmutableMapEqualsMatchesModelRow : OpenClaim := { program := "yoeeaw", sum := "982acab318a4cd455dfe052b5e0ffe7455cf6531fb44e797c37236e1122eb35c", func := "github.com/d5/tengo/v2/zzlaws_root_b3.FnImmutableMapEqualsMatchesModel", spec := "fnImmutableMapEqualsMatchesModel", unfollowed := true, recurses := true, apart := false }
def FnImmutableMapEqualsMatchesModelSaid : Prop := fnImmutableMapEqualsMatchesModelRow.holds Eeag.pinned (OpenSpec.ofChange fnImmutableMapEqualsMatchesModelSpec)

/-- ITS FALSE NEIGHBOUR: 'it returns false'. Refute it at one input. -/
def fnImmutableMapEqualsMatchesModelWrong : ChangeSpec := { name := "fnImmutableMapEqualsMatchesModel", fn := fun _ => fun
  | [d1, d2, d3, d4] => { results := [.lit (.bool false)], args := [d1, d2, d3, d4] }
  | _ => none }
def FnImmutableMapEqualsMatchesModelWrongFalsely : Prop := fnImmutableMapEqualsMatchesModelRow.holds Eeag.pinned (OpenSpec.ofChange fnImmutableMapEqualsMatchesModelWrong)

/-- 'zzlaws_root_b3.FnImmutableMapEqualsSymmetricAcrossKinds': WHATEVER THE INPUT: true; the input reads as it did. -/
def fnImmutableMapEqualsSymmetricAcrossKindsSpec : ChangeSpec := { name := "fnImmutableMapEqualsSymmetricAcrossKinds", fn := fun _ => fun
  | [d1, d2, d3, d4, d5] => { results := [.lit (.bool true)], args := [d1, d2, d3, d4, d5] }
  | _ => none }
def fnImmutableMapEqualsSymmetricAcrossKindsRow : OpenClaim := { program := "yoeeaw", sum := "982acab318a4cd455dfe052b5e0ffe7455cf6531fb44e797c37236e1122eb35c", func := "github.com/d5/tengo/v2/zzlaws_root_b3.FnImmutableMapEqualsSymmetricAcrossKinds", spec := "fnImmutableMapEqualsSymmetricAcrossKinds", unfollowed := true, recurses := true, apart := false }
def FnImmutableMapEqualsSymmetricAcrossKindsSaid : Prop := fnImmutableMapEqualsSymmetricAcrossKindsRow.holds Eeag.pinned (OpenSpec.ofChange fnImmutableMapEqualsSymmetricAcrossKindsSpec)

/-- ITS FALSE NEIGHBOUR: 'it returns false'. Refute it at one input. -/
def fnImmutableMapEqualsSymmetricAcrossKindsWrong : ChangeSpec := { name := "fnImmutableMapEqualsSymmetricAcrossKinds", fn := fun _ => fun
  | [d1, d2, d3, d4, d5] => { results := [.lit (.bool false)], args := [d1, d2, d3, d4, d5] }
  | _ => none }
def FnImmutableMapEqualsSymmetricAcrossKindsWrongFalsely : Prop := fnImmutableMapEqualsSymmetricAcrossKindsRow.holds Eeag.pinned (OpenSpec.ofChange fnImmutableMapEqualsSymmetricAcrossKindsWrong)

end Rows
end Go.Proofs.Yoeeaw
