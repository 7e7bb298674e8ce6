/-
  No cell of these rows narrows 'for every input' (looked for: loops, veiled, ifaces, maps, wideKeys, modest, calm, conditions, laid).
  DERIVED. THE GIVEN ROWS OF THIS SEAT. 6 by the template 'for every input the law returns true; each argument reads behind the call as it read before'; 0 by the template 'total and deterministic' (their statements: Qxb6602566aTotals.lean).
  GIVEN WITH THE SEED: the statements are not yours to turn. If you find one false, say at which input.
  Laid BY PROGRAM, IN A SANDBOX (cutbox-rows.mjs): the forced cells as the released guide's own fill.sh prints them over the translation 4558ae300fdd6643… (all of the seat's roots in one cut). By AI agents, Wed Nov 11 2026. No macro, syntax, notation, axiom, sorry.
-/
import Derived.Test.Qxb6602566aChecked
import GoSem.Claim
import GoSem.ClaimJoined
import GoSem.ClaimMapViews
import Derived.JoinedTies
import Derived.KernelRfl
namespace Go.Proofs.Qxb6602566a
/- THE CELL 'sum', in the pinned program and in every row, IS THE sha256 OF THE DUMP (.gsa) THAT Qxb6602566aProg.lean LOADS. Nothing in Lean hashes anything: it is a label: what it is worth is what the hold of that sum in a sandbox is worth. -/
noncomputable def Try.pinned : Pinned := { name := "qxb6602566a", sum := "4558ae300fdd6643cb76b1fe4408ec5a1219d03f13036f3c2c3bb5c78f993ed9", checked := Try.checked }
namespace Rows
def none {H : Type} : Left H := { results := [], args := [] }

/-- 'zzlaws_internal_broker_b1.FnAdminRowsSpec': WHATEVER THE INPUT: true; the input reads as it did. -/
def fnAdminRowsSpecSpec : ChangeSpec := { name := "fnAdminRowsSpec", fn := fun _ => fun
  | [d1, d2, d3, d4, d5, d6, d7, d8, d9] => { results := [.lit (.bool true)], args := [d1, d2, d3, d4, d5, d6, d7, d8, d9] }
  | _ => none }
def fnAdminRowsSpecRow : OpenClaim := { program := "qxb6602566a", sum := "4558ae300fdd6643cb76b1fe4408ec5a1219d03f13036f3c2c3bb5c78f993ed9", func := "example.com/requeue/requeue/zzlaws_internal_broker_b1.FnAdminRowsSpec", spec := "fnAdminRowsSpec", apart := false }
def FnAdminRowsSpecSaid : Prop := fnAdminRowsSpecRow.holds Try.pinned (OpenSpec.ofChange fnAdminRowsSpecSpec)

/-- ITS FALSE NEIGHBOUR: 'it returns false'. Refute it at one input. -/
def fnAdminRowsSpecWrong : ChangeSpec := { name := "fnAdminRowsSpec", fn := fun _ => fun
  | [d1, d2, d3, d4, d5, d6, d7, d8, d9] => { results := [.lit (.bool false)], args := [d1, d2, d3, d4, d5, d6, d7, d8, d9] }
  | _ => none }
def FnAdminRowsSpecWrongFalsely : Prop := fnAdminRowsSpecRow.holds Try.pinned (OpenSpec.ofChange fnAdminRowsSpecWrong)

/-- 'zzlaws_internal_broker_b1.FnAdminRowsSplit': WHATEVER THE INPUT: true; the input reads as it did. -/
def fnAdminRowsSplitSpec : ChangeSpec := { name := "fnAdminRowsSplit", fn := fun _ => fun
  | [d1, d2, d3, d4, d5, d6, d7, d8, d9, d10] => { results := [.lit (.bool true)], args := [d1, d2, d3, d4, d5, d6, d7, d8, d9, d10] }
  | _ => none }
def fnAdminRowsSplitRow : OpenClaim := { program := "qxb6602566a", sum := "4558ae300fdd6643cb76b1fe4408ec5a1219d03f13036f3c2c3bb5c78f993ed9", func := "example.com/requeue/requeue/zzlaws_internal_broker_b1.FnAdminRowsSplit", spec := "fnAdminRowsSplit", apart := false }
def FnAdminRowsSplitSaid : Prop := fnAdminRowsSplitRow.holds Try.pinned (OpenSpec.ofChange fnAdminRowsSplitSpec)

/-- ITS FALSE NEIGHBOUR: 'it returns false'. Refute it at one input. -/
def fnAdminRowsSplitWrong : ChangeSpec := { name := "fnAdminRowsSplit", fn := fun _ => fun
  | [d1, d2, d3, d4, d5, d6, d7, d8, d9, d10] => { results := [.lit (.bool false)], args := [d1, d2, d3, d4, d5, d6, d7, d8, d9, d10] }
  | _ => none }
def FnAdminRowsSplitWrongFalsely : Prop := fnAdminRowsSplitRow.holds Try.pinned (OpenSpec.ofChange fnAdminRowsSplitWrong)

/-- 'zzlaws_internal_broker_b1.FnPushSpec': WHATEVER THE INPUT: true; the input reads as it did. -/
def fnPushSpecSpec : ChangeSpec := { name := "fnPushSpec", fn := fun _ => fun
  | [d1, d2, d3, d4, d5, d6, d7, d8, d9] => { results := [.lit (.bool true)], args := [d1, d2, d3, d4, d5, d6, d7, d8, d9] }
  | _ => none }
def fnPushSpecRow : OpenClaim := { program := "qxb6602566a", sum := "4558ae300fdd6643cb76b1fe4408ec5a1219d03f13036f3c2c3bb5c78f993ed9", func := "example.com/requeue/requeue/zzlaws_internal_broker_b1.FnPushSpec", spec := "fnPushSpec", apart := false }
def FnPushSpecSaid : Prop := fnPushSpecRow.holds Try.pinned (OpenSpec.ofChange fnPushSpecSpec)

/-- ITS FALSE NEIGHBOUR: 'it returns false'. Refute it at one input. -/
def fnPushSpecWrong : ChangeSpec := { name := "fnPushSpec", fn := fun _ => fun
  | [d1, d2, d3, d4, d5, d6, d7, d8, d9] => { results := [.lit (.bool false)], args := [d1, d2, d3, d4, d5, d6, d7, d8, d9] }
  | _ => none }
def FnPushSpecWrongFalsely : Prop := fnPushSpecRow.holds Try.pinned (OpenSpec.ofChange fnPushSpecWrong)

/-- 'zzlaws_internal_broker_b1.FnPopBackSpec': WHATEVER THE INPUT: true; the input reads as it did. -/
def fnPopBackSpecSpec : ChangeSpec := { name := "fnPopBackSpec", fn := fun _ => fun
  | [d1, d2, d3, d4] => { results := [.lit (.bool true)], args := [d1, d2, d3, d4] }
  | _ => none }
def fnPopBackSpecRow : OpenClaim := { program := "qxb6602566a", sum := "4558ae300fdd6643cb76b1fe4408ec5a1219d03f13036f3c2c3bb5c78f993ed9", func := "example.com/requeue/requeue/zzlaws_internal_broker_b1.FnPopBackSpec", spec := "fnPopBackSpec", apart := false }
def FnPopBackSpecSaid : Prop := fnPopBackSpecRow.holds Try.pinned (OpenSpec.ofChange fnPopBackSpecSpec)

/-- ITS FALSE NEIGHBOUR: 'it returns false'. Refute it at one input. -/
def fnPopBackSpecWrong : ChangeSpec := { name := "fnPopBackSpec", fn := fun _ => fun
  | [d1, d2, d3, d4] => { results := [.lit (.bool false)], args := [d1, d2, d3, d4] }
  | _ => none }
def FnPopBackSpecWrongFalsely : Prop := fnPopBackSpecRow.holds Try.pinned (OpenSpec.ofChange fnPopBackSpecWrong)

/-- 'zzlaws_internal_broker_b1.FnPushPopBackRoundTrip': WHATEVER THE INPUT: true; the input reads as it did. -/
def fnPushPopBackRoundTripSpec : ChangeSpec := { name := "fnPushPopBackRoundTrip", fn := fun _ => fun
  | [d1, d2, d3, d4, d5, d6, d7, d8, d9] => { results := [.lit (.bool true)], args := [d1, d2, d3, d4, d5, d6, d7, d8, d9] }
  | _ => none }
def fnPushPopBackRoundTripRow : OpenClaim := { program := "qxb6602566a", sum := "4558ae300fdd6643cb76b1fe4408ec5a1219d03f13036f3c2c3bb5c78f993ed9", func := "example.com/requeue/requeue/zzlaws_internal_broker_b1.FnPushPopBackRoundTrip", spec := "fnPushPopBackRoundTrip", apart := false }
def FnPushPopBackRoundTripSaid : Prop := fnPushPopBackRoundTripRow.holds Try.pinned (OpenSpec.ofChange fnPushPopBackRoundTripSpec)

/-- ITS FALSE NEIGHBOUR: 'it returns false'. Refute it at one input. -/
def fnPushPopBackRoundTripWrong : ChangeSpec := { name := "fnPushPopBackRoundTrip", fn := fun _ => fun
  | [d1, d2, d3, d4, d5, d6, d7, d8, d9] => { results := [.lit (.bool false)], args := [d1, d2, d3, d4, d5, d6, d7, d8, d9] }
  | _ => none }
def FnPushPopBackRoundTripWrongFalsely : Prop := fnPushPopBackRoundTripRow.holds Try.pinned (OpenSpec.ofChange fnPushPopBackRoundTripWrong)

/-- 'zzlaws_internal_broker_b1.FnEntryListScript': WHATEVER THE INPUT: true; the input reads as it did. -/
def fnEntryListScriptSpec : ChangeSpec := { name := "fnEntryListScript", fn := fun _ => fun
  | [d1, d2, d3, d4, d5, d6] => { results := [.lit (.bool true)], args := [d1, d2, d3, d4, d5, d6] }
  | _ => none }
def fnEntryListScriptRow : OpenClaim := { program := "qxb6602566a", sum := "4558ae300fdd6643cb76b1fe4408ec5a1219d03f13036f3c2c3bb5c78f993ed9", func := "example.com/requeue/requeue/zzlaws_internal_broker_b1.FnEntryListScript", spec := "fnEntryListScript", apart := false }
def FnEntryListScriptSaid : Prop := fnEntryListScriptRow.holds Try.pinned (OpenSpec.ofChange fnEntryListScriptSpec)

/-- ITS FALSE NEIGHBOUR: 'it returns false'. Refute it at one input. -/
def fnEntryListScriptWrong : ChangeSpec := { name := "fnEntryListScript", fn := fun _ => fun
  | [d1, d2, d3, d4, d5, d6] => { results := [.lit (.bool false)], args := [d1, d2, d3, d4, d5, d6] }
  | _ => none }
def FnEntryListScriptWrongFalsely : Prop := fnEntryListScriptRow.holds Try.pinned (OpenSpec.ofChange fnEntryListScriptWrong)

end Rows
end Go.Proofs.Qxb6602566a
