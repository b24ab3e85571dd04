/-
  Seat b6604271aM: an argument that is an array of 32 bytes, opened.
-/
import Derived.Test.Qxb6604271aModsPlain
import Derived.ProofKit
import Derived.OpenShut
namespace Go.Proofs.Qxb6604271aMods
open Go.ChangeShapes Go.WideShapes Go.ChangeAt Go.RowKit

theorem Trym.cells26 : Trym.prog.cellsOf 26 = 32 := by kernel_rfl

theorem open32 {H : Type} {enc : TypeId × Value → H} {W : World} {r : Reach} {b0 base : Nat} {spare : Nat → Bool} {held : Bool} {v : Value} {d : DataW H} {p : List MemPlace}
    (hv : Value.okWide Trym.prog W r b0 26 v) (h : DataW.Trod enc Trym.prog W base spare held 26 v d p) : ∃ l, IsB l ∧ v = .agg (bts l).toArray := by
  obtain ⟨cs, rfl, hsz⟩ : ∃ cs, v = .agg cs ∧ cs.size = Trym.prog.cellsOf 26 := by
    simp only [Value.okWide, Trym.underlying26] at hv
    obtain ⟨cs, h1, h2, _⟩ := hv
    exact ⟨cs, h1, h2⟩
  rw [Trym.cells26] at hsz
  obtain ⟨fuel, hf⟩ := h
  obtain ⟨xs, m, rfl, _, _, hxs, hall⟩ := DataW.trod_array Trym.underlying26 hf
  have key : ∀ i, i < 32 → ∃ n : Int, cs.toList[i]? = some (.int .u8 n) ∧ 0 ≤ n ∧ n < 256 := by
    intro i hi
    have h1 := hall i hi
    rw [Trym.cells5, List.getElem?_eq_getElem (by omega)] at h1
    obtain ⟨n, e1, _, hw⟩ := DataW.trod_int Trym.underlying5 h1
    have e2 : ((cs.toList.drop (i * 1)).take 1)[0]? = some (.int .u8 n) := by
      simp only [Value.cells] at e1
      rw [e1]; rfl
    have hb := bounds_u8 hw
    refine ⟨n, ?_, by omega, by omega⟩
    rw [List.getElem?_take_of_lt (by omega), List.getElem?_drop] at e2
    simpa using e2
  refine ⟨cs.toList.map intOf, ⟨by simpa using hsz, ?_⟩, ?_⟩
  · intro x hx
    obtain ⟨u, hu, rfl⟩ := List.mem_map.1 hx
    obtain ⟨k, hk, rfl⟩ := List.getElem_of_mem hu
    obtain ⟨n, hn, h0, h1⟩ := key k (by simpa [hsz] using hk)
    rw [List.getElem?_eq_getElem hk] at hn
    simp only [Option.some.injEq] at hn
    rw [hn]
    exact ⟨h0, h1⟩
  · congr 1
    have e : bts (cs.toList.map intOf) = cs.toList := by
      apply List.ext_getElem?
      intro k
      by_cases hk : k < 32
      · obtain ⟨n, hn, _, _⟩ := key k hk
        rw [hn]
        simp only [bts, List.getElem?_map, hn]
        rfl
      · rw [List.getElem?_eq_none (by simp [bts]; omega), List.getElem?_eq_none (by simp; omega)]
    rw [e]
end Go.Proofs.Qxb6604271aMods
