/-
  Seat b6604271aM: the plain law beneath FnDistanceCloserAgreesAtFirstDifferingBit: no Go in sight.
-/
import Derived.Test.Qxb6604271aModsCmp
namespace Go.Proofs.Qxb6604271aMods
open Go.RowKit

/-- Two numbers that agree from bit n on and are not the same have a highest bit at which they differ. -/
theorem top_bit {u v : Nat} (hne : u ≠ v) : ∀ n : Nat, (∀ j, n ≤ j → u.testBit j = v.testBit j) → ∃ j, j < n ∧ u.testBit j ≠ v.testBit j ∧ ∀ i, j < i → u.testBit i = v.testBit i
  | 0, h => absurd (Nat.eq_of_testBit_eq fun i => h i (Nat.zero_le _)) hne
  | n + 1, h => by
    by_cases e : u.testBit n = v.testBit n
    · obtain ⟨j, hj, h1, h2⟩ := top_bit hne n (fun j hj => by
        by_cases e' : j = n
        · subst e'; exact e
        · exact h j (by omega))
      exact ⟨j, by omega, h1, h2⟩
    · exact ⟨n, by omega, e, fun i hi => h i (by omega)⟩

theorem top_bit8 {u v : Nat} (hu : u < 256) (hv : v < 256) (hne : u ≠ v) : ∃ j, j < 8 ∧ u.testBit j ≠ v.testBit j ∧ ∀ i, j < i → u.testBit i = v.testBit i :=
  top_bit hne 8 fun j hj => by
    have h2 : 2 ^ 8 ≤ 2 ^ j := Nat.pow_le_pow_right (by omega) hj
    rw [Nat.testBit_lt_two_pow (by omega), Nat.testBit_lt_two_pow (by omega)]

/-- Where two numbers agree above bit j, that bit decides. -/
theorem lt_by_bit {x y : Nat} (j : Nat) (hx : x.testBit j = false) (hy : y.testBit j = true) (h : ∀ i, j < i → x.testBit i = y.testBit i) : x < y := by
  have e : x / 2 ^ (j + 1) = y / 2 ^ (j + 1) := by
    apply Nat.eq_of_testBit_eq
    intro i
    rw [Nat.testBit_div_two_pow, Nat.testBit_div_two_pow]
    exact h _ (by omega)
  rw [Nat.pow_succ, ← Nat.div_div_eq_div_mul, ← Nat.div_div_eq_div_mul] at e
  rw [Nat.testBit_eq_decide_div_mod_eq, decide_eq_false_iff_not] at hx
  rw [Nat.testBit_eq_decide_div_mod_eq, decide_eq_true_iff] at hy
  by_cases hlt : x < y
  · exact hlt
  · have := Nat.div_le_div_right (c := 2 ^ j) (show y ≤ x by omega)
    omega

/-- The nearer one agrees at that bit. -/
theorem near_iff {y u v j : Nat} (hd : u.testBit j ≠ v.testBit j) (ha : ∀ i, j < i → u.testBit i = v.testBit i) :
    (y.testBit j = u.testBit j → y ^^^ u < y ^^^ v) ∧ (y.testBit j ≠ u.testBit j → y ^^^ v < y ^^^ u) := by
  have hup : ∀ i, j < i → (y ^^^ u).testBit i = (y ^^^ v).testBit i := fun i hi => by rw [Nat.testBit_xor, Nat.testBit_xor, ha i hi]
  constructor
  · intro h
    refine lt_by_bit j ?_ ?_ hup
    · rw [Nat.testBit_xor, h]; simp
    · rw [Nat.testBit_xor, h]; cases hu : u.testBit j <;> cases hv : v.testBit j <;> simp_all
  · intro h
    refine lt_by_bit j ?_ ?_ (fun i hi => (hup i hi).symm)
    · rw [Nat.testBit_xor]; cases hu : u.testBit j <;> cases hv : v.testBit j <;> cases hy : y.testBit j <;> simp_all
    · rw [Nat.testBit_xor]; cases hu : u.testBit j <;> cases hv : v.testBit j <;> cases hy : y.testBit j <;> simp_all

/-- 'x & (1 << j)' tells the bit. -/
theorem and_bit (x j : Nat) : x &&& 2 ^ j = if x.testBit j then 2 ^ j else 0 := by
  rw [nat_bit, Nat.testBit_eq_decide_div_mod_eq]
  have := Nat.mod_lt (x / 2 ^ j) (show 0 < 2 by omega)
  by_cases h : x / 2 ^ j % 2 = 1
  · simp [h]
  · have : x / 2 ^ j % 2 = 0 := by omega
    simp [this]
theorem and_bit_eq (x y j : Nat) : (x &&& 2 ^ j) = (y &&& 2 ^ j) ↔ x.testBit j = y.testBit j := by
  rw [and_bit, and_bit]
  have h1 : 0 < 2 ^ j := Nat.two_pow_pos j
  have h2 : ¬ 0 = 2 ^ j := by omega
  cases x.testBit j <;> cases y.testBit j <;> simp [h2]

/-- Two lists of the same length that differ have a first place where they do. -/
theorem first_diff : ∀ {a b : List Int}, a.length = b.length → a ≠ b → ∃ (i : Nat) (x y : Int), a[i]? = some x ∧ b[i]? = some y ∧ x ≠ y ∧ ∀ j, j < i → a[j]? = b[j]?
  | [], [], _, h => absurd rfl h
  | x :: a, y :: b, hl, h => by
    by_cases e : x = y
    · subst e
      obtain ⟨i, u, v, h1, h2, h3, h4⟩ := first_diff (a := a) (b := b) (by simpa using hl) (fun h' => h (by rw [h']))
      refine ⟨i + 1, u, v, by simpa using h1, by simpa using h2, h3, fun j hj => ?_⟩
      cases j with
      | zero => simp
      | succ j => simpa using h4 j (by omega)
    · exact ⟨0, x, y, by simp, by simp, e, fun j hj => by omega⟩

/-- The first place decides. -/
theorem cmpL_at : ∀ {p q : List Int} (i : Nat) {x y : Int}, p[i]? = some x → q[i]? = some y → (∀ j, j < i → p[j]? = q[j]?) → x ≠ y → cmpL p q = if x < y then -1 else 1
  | x :: p, y :: q, 0, u, v, h1, h2, _, h => by
    simp at h1 h2
    subst h1 h2
    simp only [cmpL]
    by_cases e : x < y
    · rw [if_pos e, if_pos e]
    · rw [if_neg e, if_neg e, if_pos (by omega)]
  | x :: p, y :: q, i + 1, u, v, h1, h2, h3, h => by
    have e : x = y := by simpa using h3 0 (by omega)
    subst e
    simp only [cmpL]
    rw [if_neg (by omega), if_neg (by omega)]
    exact cmpL_at i (by simpa using h1) (by simpa using h2) (fun j hj => by simpa using h3 (j + 1) (by omega)) h
  | [], _, i, _, _, h1, _, _, _ => by simp at h1
  | _ :: _, [], i, _, _, _, h2, _, _ => by simp at h2

theorem cmpL_self : ∀ p : List Int, cmpL p p = 0
  | [] => rfl
  | x :: p => by simp only [cmpL]; rw [if_neg (by omega), if_neg (by omega)]; exact cmpL_self p
end Go.Proofs.Qxb6604271aMods
