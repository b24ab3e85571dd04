/-
  The proof of 'Rows.FnEncodeUintOrderIsShortlexSaid'. The frame ('lifted', 'over', 'proved') is the shell that the guide's own tool wrote for this function, turned from 'Grown' to 'Below' (the callee appends, so its world is a variable). The walk and the plain law are this seat's.
-/
import Derived.Test.Qxb6604072aModsRows
import Derived.WalkKit
import Derived.ProofKit
import Derived.OpenShut
import Derived.ShutString
import Derived.ChangeOld
import Derived.Below
import Derived.Test.Qxb6604072aModsCmp
namespace Go.Proofs.Qxb6604072aMods.fnEncodeUintOrderIsShortlex
open Go.ChangeShapes Go.WideShapes Go.ChangeAt Go.RowKit
open Go.ChangeMaps (open_string shut_string)
set_option linter.unusedVariables false      -- a walk need not use every 'w<i>' (that an integer argument fits its kind)

theorem own : ownKnob Trym.prog.godebug = none := by kernel_rfl

/-! ### STEP 1: THE WALK -/
set_option maxHeartbeats 400000 in
theorem walk_lt (v u : Int) (hv0 : 0 ≤ v) (hv1 : v < 4294967296) (hu0 : 0 ≤ u) (hu1 : u < 4294967296) (hc : v < u) (w : World) :
    Calls Trym.prog 5 #[.int .u32 v, .int .u32 u] w fun e w' => e = .returned (.bool true) ∧ Below w.heap.size w w' := by
  have ec : cmp v u = -1 := by unfold cmp; rw [if_pos hc]
  go_enter Trym.func5, Trym.ntmps5
  go_wp2_with fail
  refine (zz_any v hv0 hv1 _).mono ?_
  rintro e w1 ⟨ao, k, ca, rfl, hk, ha, hv, hv', hb1⟩
  go_wp2_with fail
  refine (zz_any u hu0 hu1 _).mono ?_
  rintro e w2 ⟨bo, m, cb, rfl, hm, hb, hu, hu', hb2⟩
  go_wp2_with fail
  refine (cmp_any v u hv0 hu0 ao bo k m ca cb hk hm _ (ha.later hb2) hb hv hu hv' hu').mono ?_
  rintro e w3 ⟨rfl, n, rfl⟩
  go_wp2
  go_ret
  exact ⟨rfl, below_drewN (hb1.trans (hb2.mono hb1.size)) n⟩
set_option maxHeartbeats 400000 in
theorem walk_gt (v u : Int) (hv0 : 0 ≤ v) (hv1 : v < 4294967296) (hu0 : 0 ≤ u) (hu1 : u < 4294967296) (hn : ¬ v < u) (hc : u < v) (w : World) :
    Calls Trym.prog 5 #[.int .u32 v, .int .u32 u] w fun e w' => e = .returned (.bool true) ∧ Below w.heap.size w w' := by
  have ec : cmp v u = 1 := by unfold cmp; rw [if_neg hn, if_pos hc]
  go_enter Trym.func5, Trym.ntmps5
  go_wp2_with fail
  refine (zz_any v hv0 hv1 _).mono ?_
  rintro e w1 ⟨ao, k, ca, rfl, hk, ha, hv, hv', hb1⟩
  go_wp2_with fail
  refine (zz_any u hu0 hu1 _).mono ?_
  rintro e w2 ⟨bo, m, cb, rfl, hm, hb, hu, hu', hb2⟩
  go_wp2_with fail
  refine (cmp_any v u hv0 hu0 ao bo k m ca cb hk hm _ (ha.later hb2) hb hv hu hv' hu').mono ?_
  rintro e w3 ⟨rfl, n, rfl⟩
  go_wp2
  go_ret
  exact ⟨rfl, below_drewN (hb1.trans (hb2.mono hb1.size)) n⟩
set_option maxHeartbeats 400000 in
theorem walk_eq (v : Int) (hv0 : 0 ≤ v) (hv1 : v < 4294967296) (w : World) :
    Calls Trym.prog 5 #[.int .u32 v, .int .u32 v] w fun e w' => e = .returned (.bool true) ∧ Below w.heap.size w w' := by
  have ec : cmp v v = 0 := by unfold cmp; rw [if_neg (by omega), if_neg (by omega)]
  go_enter Trym.func5, Trym.ntmps5
  go_wp2_with fail
  refine (zz_any v hv0 hv1 _).mono ?_
  rintro e w1 ⟨ao, k, ca, rfl, hk, ha, hv, hv', hb1⟩
  go_wp2_with fail
  refine (zz_any v hv0 hv1 _).mono ?_
  rintro e w2 ⟨bo, m, cb, rfl, hm, hb, hu, hu', hb2⟩
  go_wp2_with fail
  refine (cmp_any v v hv0 hv0 ao bo k m ca cb hk hm _ (ha.later hb2) hb hv hu hv' hu').mono ?_
  rintro e w3 ⟨rfl, n, rfl⟩
  go_wp2
  go_ret
  exact ⟨rfl, below_drewN (hb1.trans (hb2.mono hb1.size)) n⟩
theorem walk (a0 : Int) (a1 : Int) (w0 : (Lit.int .u32 a0).wf = true) (w1 : (Lit.int .u32 a1).wf = true) (w : World) :
    Calls Trym.prog 5 #[.int .u32 a0, .int .u32 a1] w fun e w' => e = .returned (.bool true) ∧ Below w.heap.size w w' := by
  have hb0 := bounds_u32 w0
  have hb1 := bounds_u32 w1
  by_cases h : a0 < a1
  · exact walk_lt a0 a1 (by omega) (by omega) (by omega) (by omega) h w
  by_cases h' : a1 < a0
  · exact walk_gt a0 a1 (by omega) (by omega) (by omega) (by omega) h h' w
  obtain rfl : a0 = a1 := by omega
  exact walk_eq a0 (by omega) (by omega) w

/-! ### THE ROW's STEP -/
set_option maxRecDepth 100000 in
theorem lifted (os : Os) (started : os.Started) (H : Type) (enc : TypeId × Value → H) :
    ReturnsInHanded {} Trym.checked os 5 .any (Rows.fnEncodeUintOrderIsShortlexSpec.pre6 enc Trym.prog Trym.f5 Rows.fnEncodeUintOrderIsShortlexRow.domain false) (Rows.fnEncodeUintOrderIsShortlexSpec.post enc Trym.prog Trym.f5 false true false false) := by
  refine returnsInHanded_of_change (C := Trym.checked) own started (by kernel_rfl) Trym.func5
    (ChangeSpec.witness6 (enc := enc) (C := Trym.checked) false ⟨#[], #[.int .u32 0, .int .u32 0], []⟩ 8 (by kernel_rfl) (by kernel_rfl) (by kernel_rfl) (by kernel_rfl)) ?_
  intro W base args ds gs before hval0 hW hcnd _
  have hval : ∀ (j : Nat) t v, Trym.f5.params[j]? = some t → args[j]? = some v → Value.okWide Trym.prog W .any base t v := hval0
  have hW' := hW
  obtain ⟨p, q, hA0, hV, rfl, hfz, hnd⟩ := hW
  have hA : DataW.TrodAll enc Trym.prog W 0 (fun _ => true) true Trym.f5.params.toList args.toList ds p := hA0
  rw [Trym.params5] at hA hval
  obtain ⟨v0, vs0, d0, ds0, p0, q0, hargs, rfl, rfl, h0, r0⟩ := trodAll_cons hA
  obtain ⟨v1, vs1, d1, ds1, p1, q1, rfl, rfl, rfl, h1, r1⟩ := trodAll_cons r0
  obtain ⟨rfl, rfl, rfl⟩ := trodAll_nil r1
  obtain rfl : args = #[v0, v1] := by cases args; simp_all
  obtain ⟨rfl, rfl⟩ := trodVars_none hV
  obtain ⟨a0, rfl, rfl, rfl, w0⟩ := open_int Trym.underlying22 (hval 0 22 v0 rfl rfl) h0
  obtain ⟨a1, rfl, rfl, rfl, w1⟩ := open_int Trym.underlying22 (hval 1 22 v1 rfl rfl) h1
  clear hA0 hval0
  simp only [List.append_nil] at hW'
  refine (walk a0 a1 w0 w1 W).mono fun e W' ⟨he, hg⟩ => ?_
  subst he
  exact ⟨_, rfl, _, _, _, [], _, [], hW', trodAll_mk1 (shut_bool Trym.underlying4 _), (trodAll_cons_mk (shut_int Trym.underlying22 w0) (trodAll_cons_mk (shut_int Trym.underlying22 w1) trodAll_mk0)), rfl, hg.frame _, fun h => by cases h⟩

theorem over : Rows.fnEncodeUintOrderIsShortlexRow.holds Trym.pinned (OpenSpec.ofChange Rows.fnEncodeUintOrderIsShortlexSpec) :=
  OpenClaim.holds_of_wide 5 Trym.f5 rfl rfl rfl rfl rfl rfl rfl ⟨rfl, rfl, rfl, rfl, rfl⟩ rfl rfl rfl rfl rfl (by kernel_rfl) Trym.func5 (by kernel_rfl)
    (of_decide_eq_true (by kernel_rfl)) (by unfold Func.isWrapper; first | (rw [if_pos (by decide +kernel)]; kernel_rfl) | (rw [if_neg (by decide +kernel)]; exact ⟨rfl, rfl⟩))
    (fun os started H enc _ => lifted os started H enc)

/-- ████ THE STATEMENT ████ -/
theorem proved : Rows.FnEncodeUintOrderIsShortlexSaid :=
  over
#print axioms proved
end Go.Proofs.Qxb6604072aMods.fnEncodeUintOrderIsShortlex
