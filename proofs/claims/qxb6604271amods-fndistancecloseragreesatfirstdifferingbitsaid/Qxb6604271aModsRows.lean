/-
  No cell of these rows narrows 'for every input' (looked for: loops, veiled, ifaces, maps, wideKeys, modest, calm, conditions, laid).
  DERIVED. THE GIVEN ROWS OF THIS SEAT. 5 by the template 'for every input the law returns true; each argument reads behind the call as it read before'; 0 by the template 'total and deterministic' (their statements: Qxb6604271aModsTotals.lean).
  GIVEN WITH THE SEED: the statements are not yours to turn. If you find one false, say at which input.
  Laid BY PROGRAM, IN A SANDBOX (cutbox-rows.mjs): the forced cells as the released guide's own fill.sh prints them over the translation 541e30ec54f5cf80… (all of the seat's roots in one cut). By AI agents, Wed Nov 11 2026. No macro, syntax, notation, axiom, sorry.
-/
import Derived.Test.Qxb6604271aModsChecked
import GoSem.Claim
import GoSem.ClaimJoined
import GoSem.ClaimMapViews
import Derived.JoinedTies
import Derived.KernelRfl
namespace Go.Proofs.Qxb6604271aMods
/- THE CELL 'sum', in the pinned program and in every row, IS THE sha256 OF THE DUMP (.gsa) THAT Qxb6604271aModsProg.lean LOADS. Nothing in Lean hashes anything: it is a label: what it is worth is what the hold of that sum in a sandbox is worth. -/
noncomputable def Trym.pinned : Pinned := { name := "qxb6604271amods", sum := "541e30ec54f5cf80d141f79b9eec39d598f8fd7156b05f0973f610f2671e7125", checked := Trym.checked }
namespace Rows
def none {H : Type} : Left H := { results := [], args := [] }

/-- 'zzlaws_root_b1.FnLengthSplitAdds': WHATEVER THE INPUT: true; the input reads as it did. -/
def fnLengthSplitAddsSpec : ChangeSpec := { name := "fnLengthSplitAdds", fn := fun _ => fun
  | [d1, d2] => { results := [.lit (.bool true)], args := [d1, d2] }
  | _ => none }
def fnLengthSplitAddsRow : OpenClaim := { program := "qxb6604271amods", sum := "541e30ec54f5cf80d141f79b9eec39d598f8fd7156b05f0973f610f2671e7125", func := "example.com/nearkey/nearkey/zzlaws_root_b1.FnLengthSplitAdds", spec := "fnLengthSplitAdds", make := .lifted ["publicsums"], apart := false }
def FnLengthSplitAddsSaid : Prop := fnLengthSplitAddsRow.holds Trym.pinned (OpenSpec.ofChange fnLengthSplitAddsSpec)

/-- ITS FALSE NEIGHBOUR: 'it returns false'. Refute it at one input. -/
def fnLengthSplitAddsWrong : ChangeSpec := { name := "fnLengthSplitAdds", fn := fun _ => fun
  | [d1, d2] => { results := [.lit (.bool false)], args := [d1, d2] }
  | _ => none }
def FnLengthSplitAddsWrongFalsely : Prop := fnLengthSplitAddsRow.holds Trym.pinned (OpenSpec.ofChange fnLengthSplitAddsWrong)

/-- 'zzlaws_root_b1.FnDistanceInverseSymmetricChain': WHATEVER THE INPUT: true; the input reads as it did. -/
def fnDistanceInverseSymmetricChainSpec : ChangeSpec := { name := "fnDistanceInverseSymmetricChain", fn := fun _ => fun
  | [d1, d2, d3] => { results := [.lit (.bool true)], args := [d1, d2, d3] }
  | _ => none }
def fnDistanceInverseSymmetricChainRow : OpenClaim := { program := "qxb6604271amods", sum := "541e30ec54f5cf80d141f79b9eec39d598f8fd7156b05f0973f610f2671e7125", func := "example.com/nearkey/nearkey/zzlaws_root_b1.FnDistanceInverseSymmetricChain", spec := "fnDistanceInverseSymmetricChain", make := .lifted ["publicsums"], apart := false }
def FnDistanceInverseSymmetricChainSaid : Prop := fnDistanceInverseSymmetricChainRow.holds Trym.pinned (OpenSpec.ofChange fnDistanceInverseSymmetricChainSpec)

/-- ITS FALSE NEIGHBOUR: 'it returns false'. Refute it at one input. -/
def fnDistanceInverseSymmetricChainWrong : ChangeSpec := { name := "fnDistanceInverseSymmetricChain", fn := fun _ => fun
  | [d1, d2, d3] => { results := [.lit (.bool false)], args := [d1, d2, d3] }
  | _ => none }
def FnDistanceInverseSymmetricChainWrongFalsely : Prop := fnDistanceInverseSymmetricChainRow.holds Trym.pinned (OpenSpec.ofChange fnDistanceInverseSymmetricChainWrong)

/-- 'zzlaws_root_b1.FnDistanceCloserAgreesAtFirstDifferingBit': WHATEVER THE INPUT: true; the input reads as it did. -/
def fnDistanceCloserAgreesAtFirstDifferingBitSpec : ChangeSpec := { name := "fnDistanceCloserAgreesAtFirstDifferingBit", fn := fun _ => fun
  | [d1, d2, d3] => { results := [.lit (.bool true)], args := [d1, d2, d3] }
  | _ => none }
def fnDistanceCloserAgreesAtFirstDifferingBitRow : OpenClaim := { program := "qxb6604271amods", sum := "541e30ec54f5cf80d141f79b9eec39d598f8fd7156b05f0973f610f2671e7125", func := "example.com/nearkey/nearkey/zzlaws_root_b1.FnDistanceCloserAgreesAtFirstDifferingBit", spec := "fnDistanceCloserAgreesAtFirstDifferingBit", make := .lifted ["publicsums"], apart := false }
def FnDistanceCloserAgreesAtFirstDifferingBitSaid : Prop := fnDistanceCloserAgreesAtFirstDifferingBitRow.holds Trym.pinned (OpenSpec.ofChange fnDistanceCloserAgreesAtFirstDifferingBitSpec)

/-- ITS FALSE NEIGHBOUR: 'it returns false'. Refute it at one input. -/
def fnDistanceCloserAgreesAtFirstDifferingBitWrong : ChangeSpec := { name := "fnDistanceCloserAgreesAtFirstDifferingBit", fn := fun _ => fun
  | [d1, d2, d3] => { results := [.lit (.bool false)], args := [d1, d2, d3] }
  | _ => none }
def FnDistanceCloserAgreesAtFirstDifferingBitWrongFalsely : Prop := fnDistanceCloserAgreesAtFirstDifferingBitRow.holds Trym.pinned (OpenSpec.ofChange fnDistanceCloserAgreesAtFirstDifferingBitWrong)

/-- 'zzlaws_root_b1.FnAcceptMatchesWindowSet': WHATEVER THE INPUT: true; the input reads as it did. -/
def fnAcceptMatchesWindowSetSpec : ChangeSpec := { name := "fnAcceptMatchesWindowSet", fn := fun _ => fun
  | [d1, d2, d3] => { results := [.lit (.bool true)], args := [d1, d2, d3] }
  | _ => none }
def fnAcceptMatchesWindowSetRow : OpenClaim := { program := "qxb6604271amods", sum := "541e30ec54f5cf80d141f79b9eec39d598f8fd7156b05f0973f610f2671e7125", func := "example.com/nearkey/nearkey/zzlaws_root_b1.FnAcceptMatchesWindowSet", spec := "fnAcceptMatchesWindowSet", make := .lifted ["publicsums"], apart := false }
def FnAcceptMatchesWindowSetSaid : Prop := fnAcceptMatchesWindowSetRow.holds Trym.pinned (OpenSpec.ofChange fnAcceptMatchesWindowSetSpec)

/-- ITS FALSE NEIGHBOUR: 'it returns false'. Refute it at one input. -/
def fnAcceptMatchesWindowSetWrong : ChangeSpec := { name := "fnAcceptMatchesWindowSet", fn := fun _ => fun
  | [d1, d2, d3] => { results := [.lit (.bool false)], args := [d1, d2, d3] }
  | _ => none }
def FnAcceptMatchesWindowSetWrongFalsely : Prop := fnAcceptMatchesWindowSetRow.holds Trym.pinned (OpenSpec.ofChange fnAcceptMatchesWindowSetWrong)

/-- 'zzlaws_root_b1.FnAcceptScriptTakesEachSeqnoOnce': WHATEVER THE INPUT: true; the input reads as it did. -/
def fnAcceptScriptTakesEachSeqnoOnceSpec : ChangeSpec := { name := "fnAcceptScriptTakesEachSeqnoOnce", fn := fun _ => fun
  | [d] => { results := [.lit (.bool true)], args := [d] }
  | _ => none }
def fnAcceptScriptTakesEachSeqnoOnceRow : OpenClaim := { program := "qxb6604271amods", sum := "541e30ec54f5cf80d141f79b9eec39d598f8fd7156b05f0973f610f2671e7125", func := "example.com/nearkey/nearkey/zzlaws_root_b1.FnAcceptScriptTakesEachSeqnoOnce", spec := "fnAcceptScriptTakesEachSeqnoOnce", make := .lifted ["publicsums"], apart := false }
def FnAcceptScriptTakesEachSeqnoOnceSaid : Prop := fnAcceptScriptTakesEachSeqnoOnceRow.holds Trym.pinned (OpenSpec.ofChange fnAcceptScriptTakesEachSeqnoOnceSpec)

/-- ITS FALSE NEIGHBOUR: 'it returns false'. Refute it at one input. -/
def fnAcceptScriptTakesEachSeqnoOnceWrong : ChangeSpec := { name := "fnAcceptScriptTakesEachSeqnoOnce", fn := fun _ => fun
  | [d] => { results := [.lit (.bool false)], args := [d] }
  | _ => none }
def FnAcceptScriptTakesEachSeqnoOnceWrongFalsely : Prop := fnAcceptScriptTakesEachSeqnoOnceRow.holds Trym.pinned (OpenSpec.ofChange fnAcceptScriptTakesEachSeqnoOnceWrong)

end Rows
end Go.Proofs.Qxb6604271aMods
