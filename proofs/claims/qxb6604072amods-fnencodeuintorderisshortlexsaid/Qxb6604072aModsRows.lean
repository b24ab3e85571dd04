/-
  No cell of these rows narrows 'for every input' (looked for: loops, veiled, ifaces, maps, wideKeys, modest, calm, conditions, laid).
  DERIVED. THE GIVEN ROWS OF THIS SEAT. 3 by the template 'for every input the law returns true; each argument reads behind the call as it read before'; 0 by the template 'total and deterministic' (their statements: Qxb6604072aModsTotals.lean).
  GIVEN WITH THE SEED: the statements are not yours to turn. If you find one false, say at which input.
  Laid BY PROGRAM, IN A SANDBOX (cutbox-rows.mjs): the forced cells as the released guide's own fill.sh prints them over the translation a398cbde58157905… (all of the seat's roots in one cut). By AI agents, Wed Nov 11 2026. No macro, syntax, notation, axiom, sorry.
-/
import Derived.Test.Qxb6604072aModsChecked
import GoSem.Claim
import GoSem.ClaimJoined
import GoSem.ClaimMapViews
import Derived.JoinedTies
import Derived.KernelRfl
namespace Go.Proofs.Qxb6604072aMods
/- THE CELL 'sum', in the pinned program and in every row, IS THE sha256 OF THE DUMP (.gsa) THAT Qxb6604072aModsProg.lean LOADS. Nothing in Lean hashes anything: it is a label: what it is worth is what the hold of that sum in a sandbox is worth. -/
noncomputable def Trym.pinned : Pinned := { name := "qxb6604072amods", sum := "a398cbde58157905e960a4258f4aa0d0bc64316e004d2fb5fcae2c20aeb53eee", checked := Trym.checked }
namespace Rows
def none {H : Type} : Left H := { results := [], args := [] }

/-- 'zzlaws_pkg_coap_b1.FnEncodeUintMatchesClosedForm': WHATEVER THE INPUT: true; the input reads as it did. -/
def fnEncodeUintMatchesClosedFormSpec : ChangeSpec := { name := "fnEncodeUintMatchesClosedForm", fn := fun _ => fun
  | [d] => { results := [.lit (.bool true)], args := [d] }
  | _ => none }
def fnEncodeUintMatchesClosedFormRow : OpenClaim := { program := "qxb6604072amods", sum := "a398cbde58157905e960a4258f4aa0d0bc64316e004d2fb5fcae2c20aeb53eee", func := "example.com/latchkey/latchkey/zzlaws_pkg_coap_b1.FnEncodeUintMatchesClosedForm", spec := "fnEncodeUintMatchesClosedForm", make := .lifted ["publicsums"], apart := false }
def FnEncodeUintMatchesClosedFormSaid : Prop := fnEncodeUintMatchesClosedFormRow.holds Trym.pinned (OpenSpec.ofChange fnEncodeUintMatchesClosedFormSpec)

/-- ITS FALSE NEIGHBOUR: 'it returns false'. Refute it at one input. -/
def fnEncodeUintMatchesClosedFormWrong : ChangeSpec := { name := "fnEncodeUintMatchesClosedForm", fn := fun _ => fun
  | [d] => { results := [.lit (.bool false)], args := [d] }
  | _ => none }
def FnEncodeUintMatchesClosedFormWrongFalsely : Prop := fnEncodeUintMatchesClosedFormRow.holds Trym.pinned (OpenSpec.ofChange fnEncodeUintMatchesClosedFormWrong)

/-- 'zzlaws_pkg_coap_b1.FnEncodeUintDecodesBack': WHATEVER THE INPUT: true; the input reads as it did. -/
def fnEncodeUintDecodesBackSpec : ChangeSpec := { name := "fnEncodeUintDecodesBack", fn := fun _ => fun
  | [d] => { results := [.lit (.bool true)], args := [d] }
  | _ => none }
def fnEncodeUintDecodesBackRow : OpenClaim := { program := "qxb6604072amods", sum := "a398cbde58157905e960a4258f4aa0d0bc64316e004d2fb5fcae2c20aeb53eee", func := "example.com/latchkey/latchkey/zzlaws_pkg_coap_b1.FnEncodeUintDecodesBack", spec := "fnEncodeUintDecodesBack", make := .lifted ["publicsums"], apart := false }
def FnEncodeUintDecodesBackSaid : Prop := fnEncodeUintDecodesBackRow.holds Trym.pinned (OpenSpec.ofChange fnEncodeUintDecodesBackSpec)

/-- ITS FALSE NEIGHBOUR: 'it returns false'. Refute it at one input. -/
def fnEncodeUintDecodesBackWrong : ChangeSpec := { name := "fnEncodeUintDecodesBack", fn := fun _ => fun
  | [d] => { results := [.lit (.bool false)], args := [d] }
  | _ => none }
def FnEncodeUintDecodesBackWrongFalsely : Prop := fnEncodeUintDecodesBackRow.holds Trym.pinned (OpenSpec.ofChange fnEncodeUintDecodesBackWrong)

/-- 'zzlaws_pkg_coap_b1.FnEncodeUintOrderIsShortlex': WHATEVER THE INPUT: true; the input reads as it did. -/
def fnEncodeUintOrderIsShortlexSpec : ChangeSpec := { name := "fnEncodeUintOrderIsShortlex", fn := fun _ => fun
  | [d1, d2] => { results := [.lit (.bool true)], args := [d1, d2] }
  | _ => none }
def fnEncodeUintOrderIsShortlexRow : OpenClaim := { program := "qxb6604072amods", sum := "a398cbde58157905e960a4258f4aa0d0bc64316e004d2fb5fcae2c20aeb53eee", func := "example.com/latchkey/latchkey/zzlaws_pkg_coap_b1.FnEncodeUintOrderIsShortlex", spec := "fnEncodeUintOrderIsShortlex", make := .lifted ["publicsums"], apart := false }
def FnEncodeUintOrderIsShortlexSaid : Prop := fnEncodeUintOrderIsShortlexRow.holds Trym.pinned (OpenSpec.ofChange fnEncodeUintOrderIsShortlexSpec)

/-- ITS FALSE NEIGHBOUR: 'it returns false'. Refute it at one input. -/
def fnEncodeUintOrderIsShortlexWrong : ChangeSpec := { name := "fnEncodeUintOrderIsShortlex", fn := fun _ => fun
  | [d1, d2] => { results := [.lit (.bool false)], args := [d1, d2] }
  | _ => none }
def FnEncodeUintOrderIsShortlexWrongFalsely : Prop := fnEncodeUintOrderIsShortlexRow.holds Trym.pinned (OpenSpec.ofChange fnEncodeUintOrderIsShortlexWrong)

end Rows
end Go.Proofs.Qxb6604072aMods
