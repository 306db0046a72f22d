/-
  No cell of these rows narrows 'for every input' (looked for: loops, veiled, ifaces, maps, wideKeys, modest, calm, conditions, laid).
  DERIVED. THE GIVEN ROWS OF THIS SEAT. 3 by the template 'for every input the law returns true; each argument reads behind the call as it read before'; 0 by the template 'total and deterministic' (their statements: Qxb6604150aModsTotals.lean).
  GIVEN WITH THE SEED: the statements are not yours to turn. If you find one false, say at which input.
  Laid BY PROGRAM, IN A SANDBOX (cutbox-rows.mjs): the forced cells as the released guide's own fill.sh prints them over the translation fc34b09c15ad212c… (all of the seat's roots in one cut). By AI agents, Wed Nov 11 2026. No macro, syntax, notation, axiom, sorry.
-/
import Derived.Test.Qxb6604150aModsChecked
import GoSem.Claim
import GoSem.ClaimJoined
import GoSem.ClaimMapViews
import Derived.JoinedTies
import Derived.KernelRfl
namespace Go.Proofs.Qxb6604150aMods
/- THE CELL 'sum', in the pinned program and in every row, IS THE sha256 OF THE DUMP (.gsa) THAT Qxb6604150aModsProg.lean LOADS. Nothing in Lean hashes anything: it is a label: what it is worth is what the hold of that sum in a sandbox is worth. -/
noncomputable def Trym.pinned : Pinned := { name := "qxb6604150amods", sum := "fc34b09c15ad212c8845063eafb7883fe17c407713a3098fda1e1b048ac1af21", checked := Trym.checked }
namespace Rows
def none {H : Type} : Left H := { results := [], args := [] }

/-- 'zzlaws_internal_ledger_b1.FnParseWriterRendersBack': WHATEVER THE INPUT: true; the input reads as it did. -/
def fnParseWriterRendersBackSpec : ChangeSpec := { name := "fnParseWriterRendersBack", fn := fun _ => fun
  | [d] => { results := [.lit (.bool true)], args := [d] }
  | _ => none }
def fnParseWriterRendersBackRow : OpenClaim := { program := "qxb6604150amods", sum := "fc34b09c15ad212c8845063eafb7883fe17c407713a3098fda1e1b048ac1af21", func := "example.com/keyquorum/keyquorum/zzlaws_internal_ledger_b1.FnParseWriterRendersBack", spec := "fnParseWriterRendersBack", make := .lifted ["publicsums"], apart := false }
def FnParseWriterRendersBackSaid : Prop := fnParseWriterRendersBackRow.holds Trym.pinned (OpenSpec.ofChange fnParseWriterRendersBackSpec)

/-- ITS FALSE NEIGHBOUR: 'it returns false'. Refute it at one input. -/
def fnParseWriterRendersBackWrong : ChangeSpec := { name := "fnParseWriterRendersBack", fn := fun _ => fun
  | [d] => { results := [.lit (.bool false)], args := [d] }
  | _ => none }
def FnParseWriterRendersBackWrongFalsely : Prop := fnParseWriterRendersBackRow.holds Trym.pinned (OpenSpec.ofChange fnParseWriterRendersBackWrong)

/-- 'zzlaws_internal_ledger_b1.FnParseWriterDeviceFingerprintComesBack': WHATEVER THE INPUT: true; the input reads as it did. -/
def fnParseWriterDeviceFingerprintComesBackSpec : ChangeSpec := { name := "fnParseWriterDeviceFingerprintComesBack", fn := fun _ => fun
  | [d] => { results := [.lit (.bool true)], args := [d] }
  | _ => none }
def fnParseWriterDeviceFingerprintComesBackRow : OpenClaim := { program := "qxb6604150amods", sum := "fc34b09c15ad212c8845063eafb7883fe17c407713a3098fda1e1b048ac1af21", func := "example.com/keyquorum/keyquorum/zzlaws_internal_ledger_b1.FnParseWriterDeviceFingerprintComesBack", spec := "fnParseWriterDeviceFingerprintComesBack", make := .lifted ["publicsums"], apart := false }
def FnParseWriterDeviceFingerprintComesBackSaid : Prop := fnParseWriterDeviceFingerprintComesBackRow.holds Trym.pinned (OpenSpec.ofChange fnParseWriterDeviceFingerprintComesBackSpec)

/-- ITS FALSE NEIGHBOUR: 'it returns false'. Refute it at one input. -/
def fnParseWriterDeviceFingerprintComesBackWrong : ChangeSpec := { name := "fnParseWriterDeviceFingerprintComesBack", fn := fun _ => fun
  | [d] => { results := [.lit (.bool false)], args := [d] }
  | _ => none }
def FnParseWriterDeviceFingerprintComesBackWrongFalsely : Prop := fnParseWriterDeviceFingerprintComesBackRow.holds Trym.pinned (OpenSpec.ofChange fnParseWriterDeviceFingerprintComesBackWrong)

/-- 'zzlaws_internal_ledger_b1.FnSendsAllMonotoneInRegistrations': WHATEVER THE INPUT: true; the input reads as it did. -/
def fnSendsAllMonotoneInRegistrationsSpec : ChangeSpec := { name := "fnSendsAllMonotoneInRegistrations", fn := fun _ => fun
  | [d1, d2, d3] => { results := [.lit (.bool true)], args := [d1, d2, d3] }
  | _ => none }
def fnSendsAllMonotoneInRegistrationsRow : OpenClaim := { program := "qxb6604150amods", sum := "fc34b09c15ad212c8845063eafb7883fe17c407713a3098fda1e1b048ac1af21", func := "example.com/keyquorum/keyquorum/zzlaws_internal_ledger_b1.FnSendsAllMonotoneInRegistrations", spec := "fnSendsAllMonotoneInRegistrations", make := .lifted ["publicsums"], apart := false }
def FnSendsAllMonotoneInRegistrationsSaid : Prop := fnSendsAllMonotoneInRegistrationsRow.holds Trym.pinned (OpenSpec.ofChange fnSendsAllMonotoneInRegistrationsSpec)

/-- ITS FALSE NEIGHBOUR: 'it returns false'. Refute it at one input. -/
def fnSendsAllMonotoneInRegistrationsWrong : ChangeSpec := { name := "fnSendsAllMonotoneInRegistrations", fn := fun _ => fun
  | [d1, d2, d3] => { results := [.lit (.bool false)], args := [d1, d2, d3] }
  | _ => none }
def FnSendsAllMonotoneInRegistrationsWrongFalsely : Prop := fnSendsAllMonotoneInRegistrationsRow.holds Trym.pinned (OpenSpec.ofChange fnSendsAllMonotoneInRegistrationsWrong)

end Rows
end Go.Proofs.Qxb6604150aMods
