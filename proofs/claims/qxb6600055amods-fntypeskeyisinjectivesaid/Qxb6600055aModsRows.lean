/-
  No cell of these rows narrows 'for every input' (looked for: loops, veiled, ifaces, maps, wideKeys, modest, calm, conditions, laid).
  DERIVED. THE GIVEN ROWS OF THIS SEAT. 6 by the template 'for every input the law returns true; each argument reads behind the call as it read before'; 0 by the template 'total and deterministic' (their statements: Qxb6600055aModsTotals.lean).
  GIVEN WITH THE SEED: the statements are not yours to turn. If you find one false, say at which input.
  Laid BY PROGRAM, IN A SANDBOX (cutbox-rows.mjs): the forced cells as the released guide's own fill.sh prints them over the translation aa5d744b0ea4875a… (all of the seat's roots in one cut). By AI agents, Wed Nov 11 2026. No macro, syntax, notation, axiom, sorry.
-/
import Derived.Test.Qxb6600055aModsChecked
import GoSem.Claim
import GoSem.ClaimJoined
import GoSem.ClaimMapViews
import Derived.JoinedTies
import Derived.KernelRfl
namespace Go.Proofs.Qxb6600055aMods
/- THE CELL 'sum', in the pinned program and in every row, IS THE sha256 OF THE DUMP (.gsa) THAT Qxb6600055aModsProg.lean LOADS. Nothing in Lean hashes anything: it is a label: what it is worth is what the hold of that sum in a sandbox is worth. -/
noncomputable def Trym.pinned : Pinned := { name := "qxb6600055amods", sum := "aa5d744b0ea4875ab4ce6341ec5d8eda709fd37f0aa42d61e6ec1af15b9ae381", checked := Trym.checked }
namespace Rows
def none {H : Type} : Left H := { results := [], args := [] }

/-- 'zzlaws_zone_b1.FnTypesKeyIsInjective': WHATEVER THE INPUT: true; the input reads as it did. -/
def fnTypesKeyIsInjectiveSpec : ChangeSpec := { name := "fnTypesKeyIsInjective", fn := fun _ => fun
  | [d1, d2] => { results := [.lit (.bool true)], args := [d1, d2] }
  | _ => none }
def fnTypesKeyIsInjectiveRow : OpenClaim := { program := "qxb6600055amods", sum := "aa5d744b0ea4875ab4ce6341ec5d8eda709fd37f0aa42d61e6ec1af15b9ae381", func := "example.com/hashgap/hashgap/zzlaws_zone_b1.FnTypesKeyIsInjective", spec := "fnTypesKeyIsInjective", make := .lifted ["publicsums"], apart := false }
def FnTypesKeyIsInjectiveSaid : Prop := fnTypesKeyIsInjectiveRow.holds Trym.pinned (OpenSpec.ofChange fnTypesKeyIsInjectiveSpec)

/-- ITS FALSE NEIGHBOUR: 'it returns false'. Refute it at one input. -/
def fnTypesKeyIsInjectiveWrong : ChangeSpec := { name := "fnTypesKeyIsInjective", fn := fun _ => fun
  | [d1, d2] => { results := [.lit (.bool false)], args := [d1, d2] }
  | _ => none }
def FnTypesKeyIsInjectiveWrongFalsely : Prop := fnTypesKeyIsInjectiveRow.holds Trym.pinned (OpenSpec.ofChange fnTypesKeyIsInjectiveWrong)

/-- 'zzlaws_zone_b1.FnTypesKeyDecodesBack': WHATEVER THE INPUT: true; the input reads as it did. -/
def fnTypesKeyDecodesBackSpec : ChangeSpec := { name := "fnTypesKeyDecodesBack", fn := fun _ => fun
  | [d] => { results := [.lit (.bool true)], args := [d] }
  | _ => none }
def fnTypesKeyDecodesBackRow : OpenClaim := { program := "qxb6600055amods", sum := "aa5d744b0ea4875ab4ce6341ec5d8eda709fd37f0aa42d61e6ec1af15b9ae381", func := "example.com/hashgap/hashgap/zzlaws_zone_b1.FnTypesKeyDecodesBack", spec := "fnTypesKeyDecodesBack", make := .lifted ["publicsums"], apart := false }
def FnTypesKeyDecodesBackSaid : Prop := fnTypesKeyDecodesBackRow.holds Trym.pinned (OpenSpec.ofChange fnTypesKeyDecodesBackSpec)

/-- ITS FALSE NEIGHBOUR: 'it returns false'. Refute it at one input. -/
def fnTypesKeyDecodesBackWrong : ChangeSpec := { name := "fnTypesKeyDecodesBack", fn := fun _ => fun
  | [d] => { results := [.lit (.bool false)], args := [d] }
  | _ => none }
def FnTypesKeyDecodesBackWrongFalsely : Prop := fnTypesKeyDecodesBackRow.holds Trym.pinned (OpenSpec.ofChange fnTypesKeyDecodesBackWrong)

/-- 'zzlaws_zone_b1.FnTypesKeyKeepsOrder': WHATEVER THE INPUT: true; the input reads as it did. -/
def fnTypesKeyKeepsOrderSpec : ChangeSpec := { name := "fnTypesKeyKeepsOrder", fn := fun _ => fun
  | [d1, d2] => { results := [.lit (.bool true)], args := [d1, d2] }
  | _ => none }
def fnTypesKeyKeepsOrderRow : OpenClaim := { program := "qxb6600055amods", sum := "aa5d744b0ea4875ab4ce6341ec5d8eda709fd37f0aa42d61e6ec1af15b9ae381", func := "example.com/hashgap/hashgap/zzlaws_zone_b1.FnTypesKeyKeepsOrder", spec := "fnTypesKeyKeepsOrder", make := .lifted ["publicsums"], apart := false }
def FnTypesKeyKeepsOrderSaid : Prop := fnTypesKeyKeepsOrderRow.holds Trym.pinned (OpenSpec.ofChange fnTypesKeyKeepsOrderSpec)

/-- ITS FALSE NEIGHBOUR: 'it returns false'. Refute it at one input. -/
def fnTypesKeyKeepsOrderWrong : ChangeSpec := { name := "fnTypesKeyKeepsOrder", fn := fun _ => fun
  | [d1, d2] => { results := [.lit (.bool false)], args := [d1, d2] }
  | _ => none }
def FnTypesKeyKeepsOrderWrongFalsely : Prop := fnTypesKeyKeepsOrderRow.holds Trym.pinned (OpenSpec.ofChange fnTypesKeyKeepsOrderWrong)

/-- 'zzlaws_zone_b1.FnWithAddsExactlyTheType': WHATEVER THE INPUT: true; the input reads as it did. -/
def fnWithAddsExactlyTheTypeSpec : ChangeSpec := { name := "fnWithAddsExactlyTheType", fn := fun _ => fun
  | [d1, d2] => { results := [.lit (.bool true)], args := [d1, d2] }
  | _ => none }
def fnWithAddsExactlyTheTypeRow : OpenClaim := { program := "qxb6600055amods", sum := "aa5d744b0ea4875ab4ce6341ec5d8eda709fd37f0aa42d61e6ec1af15b9ae381", func := "example.com/hashgap/hashgap/zzlaws_zone_b1.FnWithAddsExactlyTheType", spec := "fnWithAddsExactlyTheType", inPlace := ["slices.overlaps[uint16]"], make := .lifted ["publicsums"], apart := false }
def FnWithAddsExactlyTheTypeSaid : Prop := fnWithAddsExactlyTheTypeRow.holds Trym.pinned (OpenSpec.ofChange fnWithAddsExactlyTheTypeSpec)

/-- ITS FALSE NEIGHBOUR: 'it returns false'. Refute it at one input. -/
def fnWithAddsExactlyTheTypeWrong : ChangeSpec := { name := "fnWithAddsExactlyTheType", fn := fun _ => fun
  | [d1, d2] => { results := [.lit (.bool false)], args := [d1, d2] }
  | _ => none }
def FnWithAddsExactlyTheTypeWrongFalsely : Prop := fnWithAddsExactlyTheTypeRow.holds Trym.pinned (OpenSpec.ofChange fnWithAddsExactlyTheTypeWrong)

/-- 'zzlaws_zone_b1.FnWithNumbersEachSetOnce': WHATEVER THE INPUT: true; the input reads as it did. -/
def fnWithNumbersEachSetOnceSpec : ChangeSpec := { name := "fnWithNumbersEachSetOnce", fn := fun _ => fun
  | [d1, d2] => { results := [.lit (.bool true)], args := [d1, d2] }
  | _ => none }
def fnWithNumbersEachSetOnceRow : OpenClaim := { program := "qxb6600055amods", sum := "aa5d744b0ea4875ab4ce6341ec5d8eda709fd37f0aa42d61e6ec1af15b9ae381", func := "example.com/hashgap/hashgap/zzlaws_zone_b1.FnWithNumbersEachSetOnce", spec := "fnWithNumbersEachSetOnce", inPlace := ["slices.overlaps[uint16]"], make := .lifted ["publicsums"], apart := false }
def FnWithNumbersEachSetOnceSaid : Prop := fnWithNumbersEachSetOnceRow.holds Trym.pinned (OpenSpec.ofChange fnWithNumbersEachSetOnceSpec)

/-- ITS FALSE NEIGHBOUR: 'it returns false'. Refute it at one input. -/
def fnWithNumbersEachSetOnceWrong : ChangeSpec := { name := "fnWithNumbersEachSetOnce", fn := fun _ => fun
  | [d1, d2] => { results := [.lit (.bool false)], args := [d1, d2] }
  | _ => none }
def FnWithNumbersEachSetOnceWrongFalsely : Prop := fnWithNumbersEachSetOnceRow.holds Trym.pinned (OpenSpec.ofChange fnWithNumbersEachSetOnceWrong)

/-- 'zzlaws_zone_b1.FnWithIsOrderFree': WHATEVER THE INPUT: true; the input reads as it did. -/
def fnWithIsOrderFreeSpec : ChangeSpec := { name := "fnWithIsOrderFree", fn := fun _ => fun
  | [d1, d2, d3, d4] => { results := [.lit (.bool true)], args := [d1, d2, d3, d4] }
  | _ => none }
def fnWithIsOrderFreeRow : OpenClaim := { program := "qxb6600055amods", sum := "aa5d744b0ea4875ab4ce6341ec5d8eda709fd37f0aa42d61e6ec1af15b9ae381", func := "example.com/hashgap/hashgap/zzlaws_zone_b1.FnWithIsOrderFree", spec := "fnWithIsOrderFree", inPlace := ["slices.overlaps[uint16]"], make := .lifted ["publicsums"], apart := false }
def FnWithIsOrderFreeSaid : Prop := fnWithIsOrderFreeRow.holds Trym.pinned (OpenSpec.ofChange fnWithIsOrderFreeSpec)

/-- ITS FALSE NEIGHBOUR: 'it returns false'. Refute it at one input. -/
def fnWithIsOrderFreeWrong : ChangeSpec := { name := "fnWithIsOrderFree", fn := fun _ => fun
  | [d1, d2, d3, d4] => { results := [.lit (.bool false)], args := [d1, d2, d3, d4] }
  | _ => none }
def FnWithIsOrderFreeWrongFalsely : Prop := fnWithIsOrderFreeRow.holds Trym.pinned (OpenSpec.ofChange fnWithIsOrderFreeWrong)

end Rows
end Go.Proofs.Qxb6600055aMods
