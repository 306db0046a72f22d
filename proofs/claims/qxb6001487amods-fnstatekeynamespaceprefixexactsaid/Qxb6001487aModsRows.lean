/-
  No cell of these rows narrows 'for every input' (looked for: loops, veiled, ifaces, maps, wideKeys, modest, calm, conditions, laid).
  DERIVED. THE GIVEN ROWS OF THIS SEAT. 4 by the template 'for every input the law returns true; each argument reads behind the call as it read before'; 0 by the template 'total and deterministic' (their statements: Qxb6001487aModsTotals.lean).
  GIVEN WITH THE SEED: the statements are not yours to turn. If you find one false, say at which input.
  Laid BY PROGRAM, IN A SANDBOX (cutbox-rows.mjs): the forced cells as the released guide's own fill.sh prints them over the translation 9330a9e30e71eb60… (all of the seat's roots in one cut). By AI agents, Wed Nov 11 2026. No macro, syntax, notation, axiom, sorry.
-/
import Derived.Test.Qxb6001487aModsChecked
import GoSem.Claim
import GoSem.ClaimJoined
import GoSem.ClaimMapViews
import Derived.JoinedTies
import Derived.KernelRfl
namespace Go.Proofs.Qxb6001487aMods
/- THE CELL 'sum', in the pinned program and in every row, IS THE sha256 OF THE DUMP (.gsa) THAT Qxb6001487aModsProg.lean LOADS. Nothing in Lean hashes anything: it is a label: what it is worth is what the hold of that sum in a sandbox is worth. -/
noncomputable def Trym.pinned : Pinned := { name := "qxb6001487amods", sum := "9330a9e30e71eb608b44c32485539a6d0a14138ff28547dfdacf721758ef9554", checked := Trym.checked }
namespace Rows
def none {H : Type} : Left H := { results := [], args := [] }

/-- 'zzlaws_state_b1.FnSplitInvertsStateKey': WHATEVER THE INPUT: true; the input reads as it did. -/
def fnSplitInvertsStateKeySpec : ChangeSpec := { name := "fnSplitInvertsStateKey", fn := fun _ => fun
  | [d1, d2] => { results := [.lit (.bool true)], args := [d1, d2] }
  | _ => none }
def fnSplitInvertsStateKeyRow : OpenClaim := { program := "qxb6001487amods", sum := "9330a9e30e71eb608b44c32485539a6d0a14138ff28547dfdacf721758ef9554", func := "example.com/weftchain/weftchain/zzlaws_state_b1.FnSplitInvertsStateKey", spec := "fnSplitInvertsStateKey", inPlace := ["internal/bytealg.IndexByte"], make := .lifted ["publicsums"], apart := false }
def FnSplitInvertsStateKeySaid : Prop := fnSplitInvertsStateKeyRow.holds Trym.pinned (OpenSpec.ofChange fnSplitInvertsStateKeySpec)

/-- ITS FALSE NEIGHBOUR: 'it returns false'. Refute it at one input. -/
def fnSplitInvertsStateKeyWrong : ChangeSpec := { name := "fnSplitInvertsStateKey", fn := fun _ => fun
  | [d1, d2] => { results := [.lit (.bool false)], args := [d1, d2] }
  | _ => none }
def FnSplitInvertsStateKeyWrongFalsely : Prop := fnSplitInvertsStateKeyRow.holds Trym.pinned (OpenSpec.ofChange fnSplitInvertsStateKeyWrong)

/-- 'zzlaws_state_b1.FnSplitAcceptsOnlyStateKeys': WHATEVER THE INPUT: true; the input reads as it did. -/
def fnSplitAcceptsOnlyStateKeysSpec : ChangeSpec := { name := "fnSplitAcceptsOnlyStateKeys", fn := fun _ => fun
  | [d] => { results := [.lit (.bool true)], args := [d] }
  | _ => none }
def fnSplitAcceptsOnlyStateKeysRow : OpenClaim := { program := "qxb6001487amods", sum := "9330a9e30e71eb608b44c32485539a6d0a14138ff28547dfdacf721758ef9554", func := "example.com/weftchain/weftchain/zzlaws_state_b1.FnSplitAcceptsOnlyStateKeys", spec := "fnSplitAcceptsOnlyStateKeys", inPlace := ["internal/bytealg.IndexByte"], make := .lifted ["publicsums"], apart := false }
def FnSplitAcceptsOnlyStateKeysSaid : Prop := fnSplitAcceptsOnlyStateKeysRow.holds Trym.pinned (OpenSpec.ofChange fnSplitAcceptsOnlyStateKeysSpec)

/-- ITS FALSE NEIGHBOUR: 'it returns false'. Refute it at one input. -/
def fnSplitAcceptsOnlyStateKeysWrong : ChangeSpec := { name := "fnSplitAcceptsOnlyStateKeys", fn := fun _ => fun
  | [d] => { results := [.lit (.bool false)], args := [d] }
  | _ => none }
def FnSplitAcceptsOnlyStateKeysWrongFalsely : Prop := fnSplitAcceptsOnlyStateKeysRow.holds Trym.pinned (OpenSpec.ofChange fnSplitAcceptsOnlyStateKeysWrong)

/-- 'zzlaws_state_b1.FnStateKeyOrderMatchesPairs': WHATEVER THE INPUT: true; the input reads as it did. -/
def fnStateKeyOrderMatchesPairsSpec : ChangeSpec := { name := "fnStateKeyOrderMatchesPairs", fn := fun _ => fun
  | [d1, d2, d3, d4] => { results := [.lit (.bool true)], args := [d1, d2, d3, d4] }
  | _ => none }
def fnStateKeyOrderMatchesPairsRow : OpenClaim := { program := "qxb6001487amods", sum := "9330a9e30e71eb608b44c32485539a6d0a14138ff28547dfdacf721758ef9554", func := "example.com/weftchain/weftchain/zzlaws_state_b1.FnStateKeyOrderMatchesPairs", spec := "fnStateKeyOrderMatchesPairs", make := .lifted ["publicsums"], apart := false }
def FnStateKeyOrderMatchesPairsSaid : Prop := fnStateKeyOrderMatchesPairsRow.holds Trym.pinned (OpenSpec.ofChange fnStateKeyOrderMatchesPairsSpec)

/-- ITS FALSE NEIGHBOUR: 'it returns false'. Refute it at one input. -/
def fnStateKeyOrderMatchesPairsWrong : ChangeSpec := { name := "fnStateKeyOrderMatchesPairs", fn := fun _ => fun
  | [d1, d2, d3, d4] => { results := [.lit (.bool false)], args := [d1, d2, d3, d4] }
  | _ => none }
def FnStateKeyOrderMatchesPairsWrongFalsely : Prop := fnStateKeyOrderMatchesPairsRow.holds Trym.pinned (OpenSpec.ofChange fnStateKeyOrderMatchesPairsWrong)

/-- 'zzlaws_state_b1.FnStateKeyNamespacePrefixExact': WHATEVER THE INPUT: true; the input reads as it did. -/
def fnStateKeyNamespacePrefixExactSpec : ChangeSpec := { name := "fnStateKeyNamespacePrefixExact", fn := fun _ => fun
  | [d1, d2, d3] => { results := [.lit (.bool true)], args := [d1, d2, d3] }
  | _ => none }
def fnStateKeyNamespacePrefixExactRow : OpenClaim := { program := "qxb6001487amods", sum := "9330a9e30e71eb608b44c32485539a6d0a14138ff28547dfdacf721758ef9554", func := "example.com/weftchain/weftchain/zzlaws_state_b1.FnStateKeyNamespacePrefixExact", spec := "fnStateKeyNamespacePrefixExact", make := .lifted ["publicsums"], apart := false }
def FnStateKeyNamespacePrefixExactSaid : Prop := fnStateKeyNamespacePrefixExactRow.holds Trym.pinned (OpenSpec.ofChange fnStateKeyNamespacePrefixExactSpec)

/-- ITS FALSE NEIGHBOUR: 'it returns false'. Refute it at one input. -/
def fnStateKeyNamespacePrefixExactWrong : ChangeSpec := { name := "fnStateKeyNamespacePrefixExact", fn := fun _ => fun
  | [d1, d2, d3] => { results := [.lit (.bool false)], args := [d1, d2, d3] }
  | _ => none }
def FnStateKeyNamespacePrefixExactWrongFalsely : Prop := fnStateKeyNamespacePrefixExactRow.holds Trym.pinned (OpenSpec.ofChange fnStateKeyNamespacePrefixExactWrong)

end Rows
end Go.Proofs.Qxb6001487aMods
