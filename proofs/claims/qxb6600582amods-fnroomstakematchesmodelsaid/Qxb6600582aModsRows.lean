/-
  No cell of these rows narrows 'for every input' (looked for: loops, veiled, ifaces, maps, wideKeys, modest, calm, conditions, laid).
  DERIVED. THE GIVEN ROWS OF THIS SEAT. 3 by the template 'for every input the law returns true; each argument reads behind the call as it read before'; 0 by the template 'total and deterministic' (their statements: Qxb6600582aModsTotals.lean).
  GIVEN WITH THE SEED: the statements are not yours to turn. If you find one false, say at which input.
  Laid BY PROGRAM, IN A SANDBOX (cutbox-rows.mjs): the forced cells as the released guide's own fill.sh prints them over the translation 78d452f03e2755c2… (all of the seat's roots in one cut). By AI agents, Wed Nov 11 2026. No macro, syntax, notation, axiom, sorry.
-/
import Derived.Test.Qxb6600582aModsChecked
import GoSem.Claim
import GoSem.ClaimJoined
import GoSem.ClaimMapViews
import Derived.JoinedTies
import Derived.KernelRfl
namespace Go.Proofs.Qxb6600582aMods
/- THE CELL 'sum', in the pinned program and in every row, IS THE sha256 OF THE DUMP (.gsa) THAT Qxb6600582aModsProg.lean LOADS. Nothing in Lean hashes anything: it is a label: what it is worth is what the hold of that sum in a sandbox is worth. -/
noncomputable def Trym.pinned : Pinned := { name := "qxb6600582amods", sum := "78d452f03e2755c2defb536b170d19f8e39b0b407f0bd83d0ca97d4efe9536cf", checked := Trym.checked }
namespace Rows
def none {H : Type} : Left H := { results := [], args := [] }

/-- 'zzlaws_root_b1.FnRoomsTakeMatchesModel': WHATEVER THE INPUT: true; the input reads as it did. -/
def fnRoomsTakeMatchesModelSpec : ChangeSpec := { name := "fnRoomsTakeMatchesModel", fn := fun _ => fun
  | [d1, d2, d3, d4, d5, d6] => { results := [.lit (.bool true)], args := [d1, d2, d3, d4, d5, d6] }
  | _ => none }
def fnRoomsTakeMatchesModelRow : OpenClaim := { program := "qxb6600582amods", sum := "78d452f03e2755c2defb536b170d19f8e39b0b407f0bd83d0ca97d4efe9536cf", func := "example.com/quire/quire/zzlaws_root_b1.FnRoomsTakeMatchesModel", spec := "fnRoomsTakeMatchesModel", make := .lifted ["publicsums"], apart := false }
def FnRoomsTakeMatchesModelSaid : Prop := fnRoomsTakeMatchesModelRow.holds Trym.pinned (OpenSpec.ofChange fnRoomsTakeMatchesModelSpec)

/-- ITS FALSE NEIGHBOUR: 'it returns false'. Refute it at one input. -/
def fnRoomsTakeMatchesModelWrong : ChangeSpec := { name := "fnRoomsTakeMatchesModel", fn := fun _ => fun
  | [d1, d2, d3, d4, d5, d6] => { results := [.lit (.bool false)], args := [d1, d2, d3, d4, d5, d6] }
  | _ => none }
def FnRoomsTakeMatchesModelWrongFalsely : Prop := fnRoomsTakeMatchesModelRow.holds Trym.pinned (OpenSpec.ofChange fnRoomsTakeMatchesModelWrong)

/-- 'zzlaws_root_b1.FnRoomsTakeThenPutKeepsCapacities': WHATEVER THE INPUT: true; the input reads as it did. -/
def fnRoomsTakeThenPutKeepsCapacitiesSpec : ChangeSpec := { name := "fnRoomsTakeThenPutKeepsCapacities", fn := fun _ => fun
  | [d1, d2, d3, d4, d5] => { results := [.lit (.bool true)], args := [d1, d2, d3, d4, d5] }
  | _ => none }
def fnRoomsTakeThenPutKeepsCapacitiesRow : OpenClaim := { program := "qxb6600582amods", sum := "78d452f03e2755c2defb536b170d19f8e39b0b407f0bd83d0ca97d4efe9536cf", func := "example.com/quire/quire/zzlaws_root_b1.FnRoomsTakeThenPutKeepsCapacities", spec := "fnRoomsTakeThenPutKeepsCapacities", make := .lifted ["publicsums"], apart := false }
def FnRoomsTakeThenPutKeepsCapacitiesSaid : Prop := fnRoomsTakeThenPutKeepsCapacitiesRow.holds Trym.pinned (OpenSpec.ofChange fnRoomsTakeThenPutKeepsCapacitiesSpec)

/-- ITS FALSE NEIGHBOUR: 'it returns false'. Refute it at one input. -/
def fnRoomsTakeThenPutKeepsCapacitiesWrong : ChangeSpec := { name := "fnRoomsTakeThenPutKeepsCapacities", fn := fun _ => fun
  | [d1, d2, d3, d4, d5] => { results := [.lit (.bool false)], args := [d1, d2, d3, d4, d5] }
  | _ => none }
def FnRoomsTakeThenPutKeepsCapacitiesWrongFalsely : Prop := fnRoomsTakeThenPutKeepsCapacitiesRow.holds Trym.pinned (OpenSpec.ofChange fnRoomsTakeThenPutKeepsCapacitiesWrong)

/-- 'zzlaws_root_b1.FnRoomsPutMatchesModel': WHATEVER THE INPUT: true; the input reads as it did. -/
def fnRoomsPutMatchesModelSpec : ChangeSpec := { name := "fnRoomsPutMatchesModel", fn := fun _ => fun
  | [d1, d2, d3, d4, d5] => { results := [.lit (.bool true)], args := [d1, d2, d3, d4, d5] }
  | _ => none }
def fnRoomsPutMatchesModelRow : OpenClaim := { program := "qxb6600582amods", sum := "78d452f03e2755c2defb536b170d19f8e39b0b407f0bd83d0ca97d4efe9536cf", func := "example.com/quire/quire/zzlaws_root_b1.FnRoomsPutMatchesModel", spec := "fnRoomsPutMatchesModel", make := .lifted ["publicsums"], apart := false }
def FnRoomsPutMatchesModelSaid : Prop := fnRoomsPutMatchesModelRow.holds Trym.pinned (OpenSpec.ofChange fnRoomsPutMatchesModelSpec)

/-- ITS FALSE NEIGHBOUR: 'it returns false'. Refute it at one input. -/
def fnRoomsPutMatchesModelWrong : ChangeSpec := { name := "fnRoomsPutMatchesModel", fn := fun _ => fun
  | [d1, d2, d3, d4, d5] => { results := [.lit (.bool false)], args := [d1, d2, d3, d4, d5] }
  | _ => none }
def FnRoomsPutMatchesModelWrongFalsely : Prop := fnRoomsPutMatchesModelRow.holds Trym.pinned (OpenSpec.ofChange fnRoomsPutMatchesModelWrong)

end Rows
end Go.Proofs.Qxb6600582aMods
