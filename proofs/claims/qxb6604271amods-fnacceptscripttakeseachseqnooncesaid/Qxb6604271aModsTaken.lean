/-
  Seat b6604271aM: what the script's loop keeps, plain; containsInt64 (function 15) and the law's own bound (14), by their contracts.
-/
import Derived.Test.Qxb6604271aModsAcc
namespace Go.Proofs.Qxb6604271aMods
open Go.RowKit

def memB (T : List Int) (v : Int) : Bool := decide (v ∈ T)
theorem memB_yes {T : List Int} {v : Int} (h : v ∈ T) : memB T v = true := decide_eq_true h
theorem memB_no {T : List Int} {v : Int} (h : v ∉ T) : memB T v = false := decide_eq_false h
theorem memB_iff {T : List Int} {v : Int} : memB T v = true ↔ v ∈ T := decide_eq_true_iff
theorem memB_snoc (T : List Int) (q v : Int) : memB (T ++ [q]) v = (decide (v = q) || memB T v) := by
  unfold memB
  rw [Bool.eq_iff_iff]
  simp
  exact Or.comm

/-- What the window keeps of what was taken. -/
structure Kept (h s : Int) (T : List Int) : Prop where
  h0 : 0 ≤ h
  h1 : h < 9223372036854775808
  s0 : 0 ≤ s
  s1 : s < 18446744073709551616
  le : ∀ t ∈ T, t ≤ h
  bit : ∀ i : Nat, i < 64 → s.toNat.testBit i = memB T (h - i)

theorem kept_start : Kept 0 0 [] := ⟨by omega, by omega, by omega, by omega, by simp, fun i _ => by simp [memB]⟩

theorem Kept.inW {h s : Int} {T : List Int} (k : Kept h s T) {t : Int} (ht : h - t < 64) : inW h s t = memB T t := by
  by_cases hle : t ≤ h
  · unfold Qxb6604271aMods.inW
    rw [decide_eq_true hle, decide_eq_true ht, k.bit _ (by omega), show h - ((h - t).toNat : Int) = t by omega]
    rfl
  · rw [memB_no (fun hm => hle (k.le t hm))]
    unfold Qxb6604271aMods.inW
    rw [decide_eq_false hle]
    rfl

/-- A seqno is taken: the window keeps it too. -/
theorem Kept.took {h s q : Int} {T : List Int} (k : Kept h s T) (hq2 : q < 9223372036854775808) {h' s' : Int} (hsp : Spec h s q true h' s') : Kept h' s' (T ++ [q]) ∧ (h' = if h < q then q else h) := by
  obtain ⟨e1, e2, e3⟩ := hsp
  obtain ⟨e4, s0, s1, hb⟩ := e3 rfl
  have hle : h ≤ h' ∧ q ≤ h' ∧ h' < 9223372036854775808 := by
    have := k.h1
    rw [e4]; split <;> omega
  have k0 := k.h0
  refine ⟨⟨by omega, by omega, s0, s1, fun t ht => ?_, fun i hi => ?_⟩, e4⟩
  · rcases List.mem_append.1 ht with h1 | h1
    · have := k.le t h1; omega
    · simp at h1; omega
  · rw [hb i hi, memB_snoc, k.inW (by omega)]

/-- What accept answers, told by what was taken. -/
theorem Kept.fresh_up {h s q : Int} {T : List Int} (k : Kept h s T) (hq : h < q) : fresh h s q = true ∧ memB T q = false := by
  refine ⟨by unfold fresh; rw [decide_eq_true hq]; rfl, memB_no fun hm => ?_⟩
  have := k.le q hm
  omega
theorem Kept.fresh_in {h s q : Int} {T : List Int} (k : Kept h s T) (hq : ¬ h < q) (hf : h - q < 64) : fresh h s q = !memB T q := by
  unfold fresh
  rw [decide_eq_false hq, decide_eq_true hf, k.inW hf]
  rfl
theorem Kept.fresh_far {h s q : Int} (hq : ¬ h < q) (hf : ¬ h - q < 64) : fresh h s q = false := by
  unfold fresh
  rw [decide_eq_false hq, decide_eq_false hf]
  rfl

/-! ### containsInt64 -/
set_option maxHeartbeats 400000 in
theorem contains_any (g cap : Nat) (T : List Int) (v : Int) (hm : T.length ≤ 4096) (w : World) (hc : ∀ (j : Nat) (x : Int), T[j]? = some x → w.cell? ⟨g, j, none⟩ = some (.int .i64 x)) :
    Calls Trym.prog 15 #[.slice (some ⟨g, 0, none⟩) T.length cap, .int .i64 v] w fun e w' => e = .returned (.bool (memB T v)) ∧ w' = w := by
  obtain ⟨m, hmm⟩ : ∃ m, m = T.length := ⟨_, rfl⟩
  have HM : Hid (m = T.length) := hmm
  rw [← hmm] at hm ⊢
  clear hmm
  have HC : Hid (∀ (j : Nat) (x : Int), T[j]? = some x → w.cell? ⟨g, j, none⟩ = some (.int .i64 x)) := hc
  clear hc
  go_enter Trym.func15, Trym.ntmps15
  go_wp2
  go_loop [5] (fun i => ∃ k : Nat, k ≤ m ∧ i = .int .i64 k ∧ Hid (∀ j, j < k → T[j]? ≠ some v)) (fun i => m - (intOf i).toNat)
  case atStart => exact ⟨0, by omega, rfl, fun j hj => by omega⟩
  case round =>
    obtain ⟨k, hk, rfl, HN⟩ := hrel
    by_cases hkm : k < m
    · obtain ⟨x, hx⟩ : ∃ x, T[k]? = some x := ⟨_, List.getElem?_eq_getElem (by have := HM.out; omega)⟩
      have hcx := HC.out k x hx
      have HX : Hid (T[k]? = some x) := hx
      clear hx
      by_cases hxv : x = v
      · subst hxv
        have HF : Hid (memB T x = true) := memB_yes (List.mem_of_getElem? HX.out)
        go_wp2
        go_ret
        exact ⟨by rw [HF.out]; rfl, rfl⟩
      · have hxv' : (x == v) = false := by simpa using hxv
        have HN' : Hid (∀ j, j < k + 1 → T[j]? ≠ some v) := fun j hj => by
          by_cases e : j = k
          · subst e; rw [HX.out]; simpa using hxv
          · exact HN.out j (by omega)
        clear hxv
        go_wp2
        go_round
        case rel => exact ⟨k + 1, by omega, by go_num, HN'⟩
        case measure => simp [intOf]; omega
    · have hke : k = m := by omega
      subst hke
      have HF : Hid (memB T v = false) := memB_no fun hv => by
        obtain ⟨j, hj⟩ := List.mem_iff_getElem?.1 hv
        have hlt := (List.getElem?_eq_some_iff.1 hj).1
        exact HN.out j (by have := HM.out; omega) hj
      go_wp2
      go_ret
      exact ⟨by rw [HF.out]; rfl, rfl⟩

/-! ### The law's own bound -/
set_option maxHeartbeats 400000 in
theorem bytes_many (ao : Option Addr) (n cap : Nat) (w : World) (hn : 1048576 < n) :
    Calls Trym.prog 14 #[.slice ao n cap] w fun e w' => e = .returned (.bool false) ∧ w' = w := by
  have hn' : (1048576 : Int) < (n : Int) := by omega
  go_enter Trym.func14, Trym.ntmps14
  go_wp2
  go_ret
  exact ⟨rfl, rfl⟩
set_option maxHeartbeats 400000 in
theorem bytes_few (ao : Option Addr) (n cap : Nat) (w : World) (hn : n ≤ 1048576) :
    Calls Trym.prog 14 #[.slice ao n cap] w fun e w' => e = .returned (.bool true) ∧ w' = w := by
  have hn' : (n : Int) ≤ 1048576 := by omega
  go_enter Trym.func14, Trym.ntmps14
  go_wp2
  go_ret
  exact ⟨rfl, rfl⟩
end Go.Proofs.Qxb6604271aMods
