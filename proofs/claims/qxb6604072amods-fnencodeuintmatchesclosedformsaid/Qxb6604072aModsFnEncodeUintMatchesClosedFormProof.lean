/-
  The proof of 'Rows.FnEncodeUintMatchesClosedFormSaid'. The frame ('lifted', 'over', 'proved') is the shell that the guide's own tool wrote for this function, turned from 'Grown' to 'Below' (the callee appends, so its world is a variable). The walk and the plain law are this seat's.
-/
import Derived.Test.Qxb6604072aModsRows
import Derived.WalkKit
import Derived.ProofKit
import Derived.OpenShut
import Derived.ShutString
import Derived.ChangeOld
import Derived.Below
import Derived.Test.Qxb6604072aModsEnc
namespace Go.Proofs.Qxb6604072aMods.fnEncodeUintMatchesClosedForm
open Go.ChangeShapes Go.WideShapes Go.ChangeAt Go.RowKit
open Go.ChangeMaps (open_string shut_string)
set_option linter.unusedVariables false      -- a walk need not use every 'w<i>' (that an integer argument fits its kind)

theorem own : ownKnob Trym.prog.godebug = none := by kernel_rfl

/-! ### STEP 1: THE WALK -/
set_option maxHeartbeats 400000 in
theorem walk_zero (w : World) :
    Calls Trym.prog 3 #[.int .u32 0] w fun e w' => e = .returned (.bool true) ∧ Below w.heap.size w w' := by
  have hq := fun w => run_eql_nil_slice (P := Trym.prog) w 23 5 none 0 0 0 0 Trym.underlying23
  go_enter Trym.func3, Trym.ntmps3
  go_wp2_with (first | (go_at_call 6; refine (zz_zero _).mono ?_; rintro e w' ⟨rfl, hb⟩) | (go_at_call 7; refine (width_zero _).mono ?_; rintro e w1 ⟨rfl, hw1⟩; subst hw1))
  go_ret
  exact ⟨rfl, hb⟩
set_option maxHeartbeats 400000 in
theorem walk_pos (v : Int) (h0 : 0 < v) (h1 : v < 4294967296) (w : World) :
    Calls Trym.prog 3 #[.int .u32 v] w fun e w' => e = .returned (.bool true) ∧ Below w.heap.size w w' := by
  go_enter Trym.func3, Trym.ntmps3
  go_wp2_with (first | (go_at_call 6; refine (zz_pos v h0 h1 _).mono ?_; rintro e w' ⟨k, g, cap, rfl, hk1, hk4, hg, hg', hc, hlt, hge, hb⟩; have hkz : ((k : Int) == 0) = false := (by simp; omega)) | (go_at_call 7; refine (width_any v k hk1 hk4 h0 hlt hge _).mono ?_; rintro e w1 ⟨rfl, hw1⟩; subst hw1))
  go_loop [5] (fun i => ∃ (j : Nat), j ≤ k ∧ i = .int .i64 j) (fun i => k - (intOf i).toNat)
  case atStart => exact ⟨0, by omega, rfl⟩
  case round =>
    obtain ⟨j, hj, rfl⟩ := hrel
    by_cases hjk : j < k
    · obtain ⟨b, hbb⟩ : ∃ b, b = v / 256 ^ (k - 1 - j) % 256 := ⟨_, rfl⟩
      have hcj := hc j hjk
      rw [← hbb] at hcj
      have hb0 : 0 ≤ b := by omega
      have hb1 : b < 256 := by omega
      have hne : (b != v / 2 ^ (8 * (k - 1 - j)) % 256) = false := by rw [Int.pow_mul, hbb]; simp
      clear hbb hc hlt hge
      go_wp2
      go_round
      case rel => exact ⟨j + 1, by omega, by go_num⟩
      case measure => simp [intOf]; omega
    · go_wp2
      go_ret
      exact ⟨rfl, hb⟩
theorem walk (a0 : Int) (w0 : (Lit.int .u32 a0).wf = true) (w : World) :
    Calls Trym.prog 3 #[.int .u32 a0] w fun e w' => e = .returned (.bool true) ∧ Below w.heap.size w w' := by
  have hbd := bounds_u32 w0
  by_cases h : a0 = 0
  · subst h; exact walk_zero w
  · exact walk_pos a0 (by omega) (by omega) w

/-! ### THE ROW's STEP -/
set_option maxRecDepth 100000 in
theorem lifted (os : Os) (started : os.Started) (H : Type) (enc : TypeId × Value → H) :
    ReturnsInHanded {} Trym.checked os 3 .any (Rows.fnEncodeUintMatchesClosedFormSpec.pre6 enc Trym.prog Trym.f3 Rows.fnEncodeUintMatchesClosedFormRow.domain false) (Rows.fnEncodeUintMatchesClosedFormSpec.post enc Trym.prog Trym.f3 false true false false) := by
  refine returnsInHanded_of_change (C := Trym.checked) own started (by kernel_rfl) Trym.func3
    (ChangeSpec.witness6 (enc := enc) (C := Trym.checked) false ⟨#[], #[.int .u32 0], []⟩ 8 (by kernel_rfl) (by kernel_rfl) (by kernel_rfl) (by kernel_rfl)) ?_
  intro W base args ds gs before hval0 hW hcnd _
  have hval : ∀ (j : Nat) t v, Trym.f3.params[j]? = some t → args[j]? = some v → Value.okWide Trym.prog W .any base t v := hval0
  have hW' := hW
  obtain ⟨p, q, hA0, hV, rfl, hfz, hnd⟩ := hW
  have hA : DataW.TrodAll enc Trym.prog W 0 (fun _ => true) true Trym.f3.params.toList args.toList ds p := hA0
  rw [Trym.params3] at hA hval
  obtain ⟨v0, vs0, d0, ds0, p0, q0, hargs, rfl, rfl, h0, r0⟩ := trodAll_cons hA
  obtain ⟨rfl, rfl, rfl⟩ := trodAll_nil r0
  obtain rfl : args = #[v0] := by cases args; simp_all
  obtain ⟨rfl, rfl⟩ := trodVars_none hV
  obtain ⟨a0, rfl, rfl, rfl, w0⟩ := open_int Trym.underlying22 (hval 0 22 v0 rfl rfl) h0
  clear hA0 hval0
  simp only [List.append_nil] at hW'
  refine (walk a0 w0 W).mono fun e W' ⟨he, hg⟩ => ?_
  subst he
  exact ⟨_, rfl, _, _, _, [], _, [], hW', trodAll_mk1 (shut_bool Trym.underlying4 _), (trodAll_cons_mk (shut_int Trym.underlying22 w0) trodAll_mk0), rfl, hg.frame _, fun h => by cases h⟩

theorem over : Rows.fnEncodeUintMatchesClosedFormRow.holds Trym.pinned (OpenSpec.ofChange Rows.fnEncodeUintMatchesClosedFormSpec) :=
  OpenClaim.holds_of_wide 3 Trym.f3 rfl rfl rfl rfl rfl rfl rfl ⟨rfl, rfl, rfl, rfl, rfl⟩ rfl rfl rfl rfl rfl (by kernel_rfl) Trym.func3 (by kernel_rfl)
    (of_decide_eq_true (by kernel_rfl)) (by unfold Func.isWrapper; first | (rw [if_pos (by decide +kernel)]; kernel_rfl) | (rw [if_neg (by decide +kernel)]; exact ⟨rfl, rfl⟩))
    (fun os started H enc _ => lifted os started H enc)

/-- ████ THE STATEMENT ████ -/
theorem proved : Rows.FnEncodeUintMatchesClosedFormSaid :=
  over
#print axioms proved
end Go.Proofs.Qxb6604072aMods.fnEncodeUintMatchesClosedForm
