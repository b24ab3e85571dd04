/-
  The proof of 'Rows.FnEncodeUintDecodesBackSaid'. The frame ('lifted', 'over', 'proved') is the shell that the guide's own tool wrote for this function, turned from 'Grown' to 'Below' (the callee appends, so its world is a variable). The walk and the plain law are this seat's.
-/
import Derived.Test.Qxb6604072aModsRows
import Derived.WalkKit
import Derived.ProofKit
import Derived.OpenShut
import Derived.ShutString
import Derived.ChangeOld
import Derived.Below
import Derived.Test.Qxb6604072aModsEnc
namespace Go.Proofs.Qxb6604072aMods.fnEncodeUintDecodesBack
open Go.ChangeShapes Go.WideShapes Go.ChangeAt Go.RowKit
open Go.ChangeMaps (open_string shut_string)
set_option linter.unusedVariables false      -- a walk need not use every 'w<i>' (that an integer argument fits its kind)

theorem own : ownKnob Trym.prog.godebug = none := by kernel_rfl

/-! ### STEP 1: THE WALK -/
theorem top_bd (v : Int) (k : Nat) (hk : 1 ≤ k) (h0 : 0 < v) (hlt : v / 256 ^ k = 0) (hge : v / 256 ^ (k - 1) ≠ 0) : 0 < v / 256 ^ (k - 1) ∧ v / 256 ^ (k - 1) < 256 := by
  obtain ⟨j, rfl⟩ : ∃ j, k = j + 1 := ⟨k - 1, by omega⟩
  rw [div_next] at hlt
  simp only [Nat.add_sub_cancel] at hge ⊢
  have : 0 ≤ v / 256 ^ j := Int.ediv_nonneg (by omega) (Int.pow_nonneg (by decide))
  omega

theorem or_join (A b : Int) (h0 : 0 ≤ A) (h1 : A < 4294967296) (h2 : 0 ≤ b) (h3 : b < 256) : bits .or .u64 (A * 256) b = A * 256 + b := by
  rw [u64_or _ _ (by omega) (by omega) h2 (by omega), nat_join 8 _ _ (by omega) (by omega)]
  omega

theorem rel_next {v A b : Int} {k j : Nat} (h0 : 0 < v) (h1 : v < 4294967296) (hj : j < k) (hA0 : 0 ≤ A) (hA1 : A < 4294967296) (hb0 : 0 ≤ b) (hb1 : b < 256) (hA : Hid (A = v / 256 ^ (k - j))) (hb : Hid (b = v / 256 ^ (k - 1 - j) % 256)) :
    ∃ (j' : Nat) (A' : Int), j' ≤ k ∧ Value.int .i64 ((j : Int) + 1) = .int .i64 (j' : Int) ∧ Value.int .u64 (bits .or .u64 (A * 256) b) = .int .u64 A' ∧ 0 ≤ A' ∧ A' < 4294967296 ∧ Hid (A' = v / 256 ^ (k - j')) := by
  have e1 : k - j = (k - (j + 1)) + 1 := by omega
  have e2 : k - 1 - j = k - (j + 1) := by omega
  have hA' := hA.out
  have hb' := hb.out
  rw [e1, div_next] at hA'
  rw [e2] at hb'
  have hn : 0 ≤ v / 256 ^ (k - (j + 1)) := Int.ediv_nonneg (by omega) (Int.pow_nonneg (by decide))
  have hl : v / 256 ^ (k - (j + 1)) ≤ v := Int.ediv_le_self _ (by omega)
  refine ⟨j + 1, A * 256 + b, by omega, by simp, by rw [or_join A b hA0 hA1 hb0 hb1], by omega, by omega, ?_⟩
  show A * 256 + b = _
  omega

set_option maxHeartbeats 400000 in
theorem walk_zero (w : World) :
    Calls Trym.prog 4 #[.int .u32 0] w fun e w' => e = .returned (.bool true) ∧ Below w.heap.size w w' := by
  go_enter Trym.func4, Trym.ntmps4
  go_wp2_with (go_at_call 6; refine (zz_zero _).mono ?_; rintro e w' ⟨rfl, hb⟩)
  refine wp_loop_rounds 1 ?_
  rw [rounds_succ]
  go_wp2
  go_ret
  exact ⟨rfl, hb⟩
set_option maxHeartbeats 400000 in
theorem walk_pos (v : Int) (h0 : 0 < v) (h1 : v < 4294967296) (w : World) :
    Calls Trym.prog 4 #[.int .u32 v] w fun e w' => e = .returned (.bool true) ∧ Below w.heap.size w w' := by
  go_enter Trym.func4, Trym.ntmps4
  go_wp2_with (go_at_call 6; refine (zz_pos v h0 h1 _).mono ?_; rintro e w' ⟨k, g, cap, rfl, hk1, hk4, hg, hg', hc, hlt, hge, hb⟩; have htop := top_bd v k hk1 h0 hlt hge; have htz : (v / 256 ^ (k - 1) % 256 == 0) = false := (by simp; omega); have hkz : (0 : Int) < (k : Int) := (by omega))
  clear htz htop hge
  go_loop [4, 5] (fun acc i => ∃ (j : Nat) (A : Int), j ≤ k ∧ i = .int .i64 j ∧ acc = .int .u64 A ∧ 0 ≤ A ∧ A < 4294967296 ∧ Hid (A = v / 256 ^ (k - j))) (fun _ i => k - (intOf i).toNat)
  case atStart => exact ⟨0, 0, by omega, rfl, rfl, by omega, by omega, hlt.symm⟩
  case round =>
    obtain ⟨j, A, hj, rfl, rfl, hA0, hA1, hA⟩ := hrel
    by_cases hjk : j < k
    · obtain ⟨b, hbb⟩ : ∃ b, b = v / 256 ^ (k - 1 - j) % 256 := ⟨_, rfl⟩
      have hcj := hc j hjk
      rw [← hbb] at hcj
      have hb0 : 0 ≤ b := by omega
      have hb1 : b < 256 := by omega
      have HB : Hid (b = v / 256 ^ (k - 1 - j) % 256) := hbb
      clear hbb hc hlt
      go_wp2
      go_round
      case rel => exact rel_next h0 h1 hjk hA0 hA1 hb0 hb1 hA HB
      case measure => simp [intOf]; omega
    · have hjk' : k = j := by omega
      subst hjk'
      have hA' : A = v := by have := hA.out; simpa using this
      subst hA'
      go_wp2
      go_ret
      exact ⟨rfl, hb⟩
theorem walk (a0 : Int) (w0 : (Lit.int .u32 a0).wf = true) (w : World) :
    Calls Trym.prog 4 #[.int .u32 a0] w fun e w' => e = .returned (.bool true) ∧ Below w.heap.size w w' := by
  have hbd := bounds_u32 w0
  by_cases h : a0 = 0
  · subst h; exact walk_zero w
  · exact walk_pos a0 (by omega) (by omega) w

/-! ### THE ROW's STEP -/
set_option maxRecDepth 100000 in
theorem lifted (os : Os) (started : os.Started) (H : Type) (enc : TypeId × Value → H) :
    ReturnsInHanded {} Trym.checked os 4 .any (Rows.fnEncodeUintDecodesBackSpec.pre6 enc Trym.prog Trym.f4 Rows.fnEncodeUintDecodesBackRow.domain false) (Rows.fnEncodeUintDecodesBackSpec.post enc Trym.prog Trym.f4 false true false false) := by
  refine returnsInHanded_of_change (C := Trym.checked) own started (by kernel_rfl) Trym.func4
    (ChangeSpec.witness6 (enc := enc) (C := Trym.checked) false ⟨#[], #[.int .u32 0], []⟩ 8 (by kernel_rfl) (by kernel_rfl) (by kernel_rfl) (by kernel_rfl)) ?_
  intro W base args ds gs before hval0 hW hcnd _
  have hval : ∀ (j : Nat) t v, Trym.f4.params[j]? = some t → args[j]? = some v → Value.okWide Trym.prog W .any base t v := hval0
  have hW' := hW
  obtain ⟨p, q, hA0, hV, rfl, hfz, hnd⟩ := hW
  have hA : DataW.TrodAll enc Trym.prog W 0 (fun _ => true) true Trym.f4.params.toList args.toList ds p := hA0
  rw [Trym.params4] at hA hval
  obtain ⟨v0, vs0, d0, ds0, p0, q0, hargs, rfl, rfl, h0, r0⟩ := trodAll_cons hA
  obtain ⟨rfl, rfl, rfl⟩ := trodAll_nil r0
  obtain rfl : args = #[v0] := by cases args; simp_all
  obtain ⟨rfl, rfl⟩ := trodVars_none hV
  obtain ⟨a0, rfl, rfl, rfl, w0⟩ := open_int Trym.underlying22 (hval 0 22 v0 rfl rfl) h0
  clear hA0 hval0
  simp only [List.append_nil] at hW'
  refine (walk a0 w0 W).mono fun e W' ⟨he, hg⟩ => ?_
  subst he
  exact ⟨_, rfl, _, _, _, [], _, [], hW', trodAll_mk1 (shut_bool Trym.underlying4 _), (trodAll_cons_mk (shut_int Trym.underlying22 w0) trodAll_mk0), rfl, hg.frame _, fun h => by cases h⟩

theorem over : Rows.fnEncodeUintDecodesBackRow.holds Trym.pinned (OpenSpec.ofChange Rows.fnEncodeUintDecodesBackSpec) :=
  OpenClaim.holds_of_wide 4 Trym.f4 rfl rfl rfl rfl rfl rfl rfl ⟨rfl, rfl, rfl, rfl, rfl⟩ rfl rfl rfl rfl rfl (by kernel_rfl) Trym.func4 (by kernel_rfl)
    (of_decide_eq_true (by kernel_rfl)) (by unfold Func.isWrapper; first | (rw [if_pos (by decide +kernel)]; kernel_rfl) | (rw [if_neg (by decide +kernel)]; exact ⟨rfl, rfl⟩))
    (fun os started H enc _ => lifted os started H enc)

/-- ████ THE STATEMENT ████ -/
theorem proved : Rows.FnEncodeUintDecodesBackSaid :=
  over
#print axioms proved
end Go.Proofs.Qxb6604072aMods.fnEncodeUintDecodesBack
