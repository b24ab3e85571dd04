/-
  The proof of 'Rows.FnLengthSplitAddsSaid'. The frame ('lifted', 'over', 'proved') after the guide's template and the shells of this seat, typed out for a slice of slices and an integer; the walk: Qxb6604271aModsSplit.
-/
import Derived.Test.Qxb6604271aModsRows
import Derived.WalkKit
import Derived.ProofKit
import Derived.OpenShut
import Derived.ShutString
import Derived.ChangeOld
import Derived.Below
import Derived.Deep.Slices
import Derived.Test.Qxb6604271aModsSplit
namespace Go.Proofs.Qxb6604271aMods.fnLengthSplitAdds
open Go.ChangeShapes Go.WideShapes Go.ChangeAt Go.RowKit

theorem own : ownKnob Trym.prog.godebug = none := by kernel_rfl
theorem laidOut : laidOutB Trym.prog = true := by kernel_rfl
theorem cells24 : Trym.prog.cellsOf 24 = 1 := by kernel_rfl

def addrOf : Value → Option Addr | .slice a _ _ => a | _ => none
def lenOf : Value → Nat | .slice _ l _ => l | _ => 0
def capOf : Value → Nat | .slice _ _ c => c | _ => 0

/-- What the walk is told of a slice of slices that came in. -/
theorem openLens {H : Type} {enc : TypeId × Value → H} {W : World} {base : Nat} {held : Bool} {ao : Option Addr} {n cap : Nat} {d : DataW H} {p : List MemPlace}
    (h : DataW.Trod enc Trym.prog W base (fun _ => true) held 22 (.slice ao n cap) d p) : ∃ L, Lens W ao n L ∧ n ≤ cap ∧ cap ≤ 9223372036854775807 ∧ (ao = none → n = 0 ∧ cap = 0) := by
  obtain ⟨fuel, hf⟩ := h
  rcases Deep.open_slice1 Trym.underlying22 cells24 hf with ⟨hcs, _⟩ | ⟨a, len, cap', m, k, V, D, Pl, hcs, _, hl, hm, hmm, _, hV⟩
  · simp [Value.cells] at hcs
    obtain ⟨rfl, rfl, rfl⟩ := hcs
    exact ⟨fun _ => 0, .inl rfl, by omega, by omega, fun _ => ⟨rfl, rfl⟩⟩
  · simp [Value.cells] at hcs
    obtain ⟨rfl, rfl, rfl⟩ := hcs
    simp only [if_true] at hmm
    subst hmm
    refine ⟨fun i => lenOf (V i), ?_, hl, hm, fun h => by cases h⟩
    by_cases hn : n = 0
    · exact .inl hn
    obtain ⟨b, off, spot⟩ := a
    have hspot : spot = none := by simpa [Addr.add] using World.cell?_spot (hV 0 (by omega)).1
    subst hspot
    refine .inr ⟨b, off, fun i => addrOf (V i), fun i => capOf (V i), rfl, fun i hi => ?_⟩
    obtain ⟨h1, h2⟩ := hV i (by omega)
    rw [add_plain] at h1
    rw [h1]
    rcases Deep.open_slice Trym.underlying24 h2 with ⟨e, _⟩ | ⟨a', l', c', _, _, _, _, e, _⟩
    · simp only [List.cons.injEq, and_true] at e
      simp only [e, addrOf, lenOf, capOf]
    · simp only [List.cons.injEq, and_true] at e
      simp only [e, addrOf, lenOf, capOf]

/-! ### THE ROW's STEP -/
set_option maxRecDepth 100000 in
theorem lifted (os : Os) (started : os.Started) (H : Type) (enc : TypeId × Value → H) :
    ReturnsInHanded {} Trym.checked os 3 .any (Rows.fnLengthSplitAddsSpec.pre6 enc Trym.prog Trym.f3 Rows.fnLengthSplitAddsRow.domain false) (Rows.fnLengthSplitAddsSpec.post enc Trym.prog Trym.f3 false true false false) := by
  refine returnsInHanded_of_change (C := Trym.checked) own started (by kernel_rfl) Trym.func3
    (ChangeSpec.witness6 (enc := enc) (C := Trym.checked) false ⟨#[], #[.slice none 0 0, .int .i64 0], []⟩ 8 (by kernel_rfl) (by kernel_rfl) (by kernel_rfl) (by kernel_rfl)) ?_
  intro W base args ds gs before hval0 hW _ _
  have hval : ∀ (j : Nat) t v, Trym.f3.params[j]? = some t → args[j]? = some v → Value.okWide Trym.prog W .any base t v := hval0
  have hW' := hW
  obtain ⟨p, q, hA0, hV, rfl, hfz, hnd⟩ := hW
  have hA : DataW.TrodAll enc Trym.prog W 0 (fun _ => true) true Trym.f3.params.toList args.toList ds p := hA0
  rw [Trym.params3] at hA hval
  obtain ⟨v0, vs0, d0, ds0, p0, q0, hargs, rfl, rfl, h0, r0⟩ := trodAll_cons hA
  obtain ⟨v1, vs1, d1, ds1, p1, q1, rfl, rfl, rfl, h1, r1⟩ := trodAll_cons r0
  obtain ⟨rfl, rfl, rfl⟩ := trodAll_nil r1
  obtain rfl : args = #[v0, v1] := by cases args; simp_all
  obtain ⟨rfl, rfl⟩ := trodVars_none hV
  obtain ⟨a0, len0, cap0, rfl⟩ := okWide_slice Trym.underlying22 (hval 0 22 v0 rfl rfl)
  obtain ⟨a1, rfl, rfl, rfl, w1⟩ := open_int Trym.underlying3 (hval 1 3 v1 rfl rfl) h1
  have lt0 : ∀ x ∈ p0, x.block < W.heap.size := by obtain ⟨m, hm⟩ := h0; exact DataW.trod_lt m _ _ _ hm
  obtain ⟨L, hl, hcap, hmx, hnil⟩ := openLens h0
  clear hA0 hval0
  refine (split_any a0 len0 cap0 a1 L W hl hcap hmx hnil).mono fun e W' ⟨he, bel⟩ => ?_
  subst he
  exact ⟨_, rfl, _, _, _, [], _, [], hW', trodAll_mk1 (shut_bool Trym.underlying4 _),
    (trodAll_cons_mk (Below.trod laidOut (by kernel_rfl) (of_decide_eq_true (by kernel_rfl)) h0 bel lt0)
      (trodAll_cons_mk (shut_int Trym.underlying3 w1) trodAll_mk0)), rfl, bel.frame _, fun h => by cases h⟩

theorem over : Rows.fnLengthSplitAddsRow.holds Trym.pinned (OpenSpec.ofChange Rows.fnLengthSplitAddsSpec) :=
  OpenClaim.holds_of_wide 3 Trym.f3 rfl rfl rfl rfl rfl rfl rfl ⟨rfl, rfl, rfl, rfl, rfl⟩ rfl rfl rfl rfl rfl (by kernel_rfl) Trym.func3 (by kernel_rfl)
    (of_decide_eq_true (by kernel_rfl)) (by unfold Func.isWrapper; first | (rw [if_pos (by decide +kernel)]; kernel_rfl) | (rw [if_neg (by decide +kernel)]; exact ⟨rfl, rfl⟩))
    (fun os started H enc _ => lifted os started H enc)

/-- THE STATEMENT. -/
theorem proved : Rows.FnLengthSplitAddsSaid := over
#print axioms proved
end Go.Proofs.Qxb6604271aMods.fnLengthSplitAdds
