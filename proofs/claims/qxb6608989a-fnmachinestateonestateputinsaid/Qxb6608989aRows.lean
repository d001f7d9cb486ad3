/-
  No cell of these rows narrows 'for every input' (looked for: loops, veiled, ifaces, maps, wideKeys, modest, calm, conditions, laid).
  DERIVED. THE GIVEN ROWS OF THIS SEAT. 4 by the template 'for every input the law returns true; each argument reads behind the call as it read before'; 0 by the template 'total and deterministic' (their statements: Qxb6608989aTotals.lean).
  GIVEN WITH THE SEED: the statements are not yours to turn. If you find one false, say at which input.
  Laid BY PROGRAM, IN A SANDBOX (cutbox-rows.mjs): the forced cells as the released guide's own fill.sh prints them over the translation 7608c42202df6507… (all of the seat's roots in one cut). By AI agents, Wed Nov 11 2026. No macro, syntax, notation, axiom, sorry.
-/
import Derived.Test.Qxb6608989aChecked
import GoSem.Claim
import GoSem.ClaimJoined
import GoSem.ClaimMapViews
import Derived.JoinedTies
import Derived.KernelRfl
namespace Go.Proofs.Qxb6608989a
/- THE CELL 'sum', in the pinned program and in every row, IS THE sha256 OF THE DUMP (.gsa) THAT Qxb6608989aProg.lean LOADS. Nothing in Lean hashes anything: it is a label: what it is worth is what the hold of that sum in a sandbox is worth. -/
noncomputable def Try.pinned : Pinned := { name := "qxb6608989a", sum := "7608c42202df6507fecc0f62d85378d3c13071ed62e60483b32686db8085b655", checked := Try.checked }
namespace Rows
def none {H : Type} : Left H := { results := [], args := [] }

/-- 'zzlaws_root_b1.FnKeysInSplitsAtAnyCut': WHATEVER THE INPUT: true; the input reads as it did. -/
def fnKeysInSplitsAtAnyCutSpec : ChangeSpec := { name := "fnKeysInSplitsAtAnyCut", fn := fun _ => fun
  | [d1, d2, d3] => { results := [.lit (.bool true)], args := [d1, d2, d3] }
  | _ => none }
def fnKeysInSplitsAtAnyCutRow : OpenClaim := { program := "qxb6608989a", sum := "7608c42202df6507fecc0f62d85378d3c13071ed62e60483b32686db8085b655", func := "example.com/fence/fence/zzlaws_root_b1.FnKeysInSplitsAtAnyCut", spec := "fnKeysInSplitsAtAnyCut", apart := false }
def FnKeysInSplitsAtAnyCutSaid : Prop := fnKeysInSplitsAtAnyCutRow.holds Try.pinned (OpenSpec.ofChange fnKeysInSplitsAtAnyCutSpec)

/-- ITS FALSE NEIGHBOUR: 'it returns false'. Refute it at one input. -/
def fnKeysInSplitsAtAnyCutWrong : ChangeSpec := { name := "fnKeysInSplitsAtAnyCut", fn := fun _ => fun
  | [d1, d2, d3] => { results := [.lit (.bool false)], args := [d1, d2, d3] }
  | _ => none }
def FnKeysInSplitsAtAnyCutWrongFalsely : Prop := fnKeysInSplitsAtAnyCutRow.holds Try.pinned (OpenSpec.ofChange fnKeysInSplitsAtAnyCutWrong)

/-- 'zzlaws_root_b1.FnKeysInOneElementPutInAnywhere': WHATEVER THE INPUT: true; the input reads as it did. -/
def fnKeysInOneElementPutInAnywhereSpec : ChangeSpec := { name := "fnKeysInOneElementPutInAnywhere", fn := fun _ => fun
  | [d1, d2, d3, d4, d5] => { results := [.lit (.bool true)], args := [d1, d2, d3, d4, d5] }
  | _ => none }
def fnKeysInOneElementPutInAnywhereRow : OpenClaim := { program := "qxb6608989a", sum := "7608c42202df6507fecc0f62d85378d3c13071ed62e60483b32686db8085b655", func := "example.com/fence/fence/zzlaws_root_b1.FnKeysInOneElementPutInAnywhere", spec := "fnKeysInOneElementPutInAnywhere", apart := false }
def FnKeysInOneElementPutInAnywhereSaid : Prop := fnKeysInOneElementPutInAnywhereRow.holds Try.pinned (OpenSpec.ofChange fnKeysInOneElementPutInAnywhereSpec)

/-- ITS FALSE NEIGHBOUR: 'it returns false'. Refute it at one input. -/
def fnKeysInOneElementPutInAnywhereWrong : ChangeSpec := { name := "fnKeysInOneElementPutInAnywhere", fn := fun _ => fun
  | [d1, d2, d3, d4, d5] => { results := [.lit (.bool false)], args := [d1, d2, d3, d4, d5] }
  | _ => none }
def FnKeysInOneElementPutInAnywhereWrongFalsely : Prop := fnKeysInOneElementPutInAnywhereRow.holds Try.pinned (OpenSpec.ofChange fnKeysInOneElementPutInAnywhereWrong)

/-- 'zzlaws_root_b1.FnMachineStateIsFirstOfItsName': WHATEVER THE INPUT: true; the input reads as it did. -/
def fnMachineStateIsFirstOfItsNameSpec : ChangeSpec := { name := "fnMachineStateIsFirstOfItsName", fn := fun _ => fun
  | [d1, d2, d3, d4, d5, d6, d7] => { results := [.lit (.bool true)], args := [d1, d2, d3, d4, d5, d6, d7] }
  | _ => none }
def fnMachineStateIsFirstOfItsNameRow : OpenClaim := { program := "qxb6608989a", sum := "7608c42202df6507fecc0f62d85378d3c13071ed62e60483b32686db8085b655", func := "example.com/fence/fence/zzlaws_root_b1.FnMachineStateIsFirstOfItsName", spec := "fnMachineStateIsFirstOfItsName", unfollowed := true, recurses := true, apart := false }
def FnMachineStateIsFirstOfItsNameSaid : Prop := fnMachineStateIsFirstOfItsNameRow.holds Try.pinned (OpenSpec.ofChange fnMachineStateIsFirstOfItsNameSpec)

/-- ITS FALSE NEIGHBOUR: 'it returns false'. Refute it at one input. -/
def fnMachineStateIsFirstOfItsNameWrong : ChangeSpec := { name := "fnMachineStateIsFirstOfItsName", fn := fun _ => fun
  | [d1, d2, d3, d4, d5, d6, d7] => { results := [.lit (.bool false)], args := [d1, d2, d3, d4, d5, d6, d7] }
  | _ => none }
def FnMachineStateIsFirstOfItsNameWrongFalsely : Prop := fnMachineStateIsFirstOfItsNameRow.holds Try.pinned (OpenSpec.ofChange fnMachineStateIsFirstOfItsNameWrong)

/-- 'zzlaws_root_b1.FnMachineStateOneStatePutIn': WHATEVER THE INPUT: true; the input reads as it did. -/
def fnMachineStateOneStatePutInSpec : ChangeSpec := { name := "fnMachineStateOneStatePutIn", fn := fun _ => fun
  | [d1, d2, d3, d4, d5, d6, d7, d8] => { results := [.lit (.bool true)], args := [d1, d2, d3, d4, d5, d6, d7, d8] }
  | _ => none }
def fnMachineStateOneStatePutInRow : OpenClaim := { program := "qxb6608989a", sum := "7608c42202df6507fecc0f62d85378d3c13071ed62e60483b32686db8085b655", func := "example.com/fence/fence/zzlaws_root_b1.FnMachineStateOneStatePutIn", spec := "fnMachineStateOneStatePutIn", unfollowed := true, recurses := true, apart := false }
def FnMachineStateOneStatePutInSaid : Prop := fnMachineStateOneStatePutInRow.holds Try.pinned (OpenSpec.ofChange fnMachineStateOneStatePutInSpec)

/-- ITS FALSE NEIGHBOUR: 'it returns false'. Refute it at one input. -/
def fnMachineStateOneStatePutInWrong : ChangeSpec := { name := "fnMachineStateOneStatePutIn", fn := fun _ => fun
  | [d1, d2, d3, d4, d5, d6, d7, d8] => { results := [.lit (.bool false)], args := [d1, d2, d3, d4, d5, d6, d7, d8] }
  | _ => none }
def FnMachineStateOneStatePutInWrongFalsely : Prop := fnMachineStateOneStatePutInRow.holds Try.pinned (OpenSpec.ofChange fnMachineStateOneStatePutInWrong)

end Rows
end Go.Proofs.Qxb6608989a
