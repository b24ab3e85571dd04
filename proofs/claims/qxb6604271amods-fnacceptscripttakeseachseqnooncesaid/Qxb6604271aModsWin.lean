/-
  Seat b6604271aM: the window, plain: no Go in sight.
-/
import Derived.Test.Qxb6604271aModsRows
import Derived.WalkKit
import Derived.WalkSpells
import Derived.WalkLawsBesides
namespace Go.Proofs.Qxb6604271aMods
open Go.RowKit

/-- Is t in the set that the window (h, s) denotes? -/
def inW (h s t : Int) : Bool := decide (t ≤ h) && decide (h - t < 64) && s.toNat.testBit (h - t).toNat
/-- Is q to be taken? -/
def fresh (h s q : Int) : Bool := decide (h < q) || (decide (h - q < 64) && !inW h s q)
/-- s << d on 64 bits. -/
def shlU (s : Int) (d : Nat) : Int := s * 2 ^ min d 64 % 18446744073709551616

/-- What accept answers and leaves. -/
def Spec (h s q : Int) (ok : Bool) (h' s' : Int) : Prop :=
  ok = fresh h s q ∧ (ok = false → h' = h ∧ s' = s) ∧ (ok = true → (h' = if h < q then q else h) ∧ 0 ≤ s' ∧ s' < 18446744073709551616 ∧ ∀ i : Nat, i < 64 → s'.toNat.testBit i = (decide (h' - i = q) || inW h s (h' - i)))

theorem shlU_bd (s : Int) (d : Nat) : 0 ≤ shlU s d ∧ shlU s d < 18446744073709551616 := by unfold shlU; omega

theorem shlU_bit (s : Int) (d i : Nat) (hs : 0 ≤ s) (hi : i < 64) : (shlU s d).toNat.testBit i = (decide (d ≤ i) && s.toNat.testBit (i - d)) := by
  obtain ⟨S, rfl⟩ := Int.eq_ofNat_of_zero_le hs
  have e : (shlU (S : Int) d).toNat = (S <<< min d 64) % 2 ^ 64 := by
    unfold shlU
    have e1 : ((S : Int) * 2 ^ min d 64) = ((S <<< min d 64 : Nat) : Int) := by rw [Nat.shiftLeft_eq]; simp
    rw [e1]
    generalize S <<< min d 64 = T
    omega
  rw [e, Nat.testBit_mod_two_pow, Nat.testBit_shiftLeft]
  simp only [hi, decide_true, Bool.true_and, Int.toNat_natCast]
  by_cases h : d ≤ i
  · rw [Nat.min_eq_left (by omega)]
  · have h1 : ¬ (i ≥ min d 64) := by omega
    simp [h1, h]

theorem or_bit (a b : Int) (h1 : 0 ≤ a) (h2 : a < 18446744073709551616) (h3 : 0 ≤ b) (h4 : b < 18446744073709551616) (i : Nat) :
    (bits .or .u64 a b).toNat.testBit i = (a.toNat.testBit i || b.toNat.testBit i) := by
  rw [u64_or a b h1 h2 h3 h4, Int.toNat_natCast, Nat.testBit_or]
theorem or_bd (a b : Int) (h1 : 0 ≤ a) (h2 : a < 18446744073709551616) (h3 : 0 ≤ b) (h4 : b < 18446744073709551616) : 0 ≤ bits .or .u64 a b ∧ bits .or .u64 a b < 18446744073709551616 := by
  rw [u64_or a b h1 h2 h3 h4]
  have := Nat.or_lt_two_pow (n := 64) (x := a.toNat) (y := b.toNat) (by omega) (by omega)
  omega

theorem pow_bit (j i : Nat) : ((2 : Int) ^ j).toNat.testBit i = decide (j = i) := by
  rw [toNat_two_pow, Nat.testBit_two_pow]
theorem one_bit (i : Nat) : (1 : Int).toNat.testBit i = decide (0 = i) := pow_bit 0 i
theorem pow_bd {j : Nat} (hj : j < 64) : (0 : Int) ≤ 2 ^ j ∧ (2 : Int) ^ j < 18446744073709551616 := by
  have h := Nat.pow_lt_pow_right (a := 2) (by omega) hj
  have e : (2 : Int) ^ j = ((2 ^ j : Nat) : Int) := by simp
  rw [e]
  generalize 2 ^ j = T at h
  omega

/-- A seqno above the highest. -/
theorem spec_up {h s q : Int} (s0 : 0 ≤ s) (hq : h < q) : Spec h s q true q (bits .or .u64 (shlU s (q - h).toNat) 1) := by
  have hb := shlU_bd s (q - h).toNat
  have ho := or_bd (shlU s (q - h).toNat) 1 hb.1 hb.2 (by omega) (by omega)
  refine ⟨by simp [fresh, hq], (fun h => by cases h), fun _ => ⟨by rw [if_pos hq], ho.1, ho.2, fun i hi => ?_⟩⟩
  rw [or_bit _ _ hb.1 hb.2 (by omega) (by omega), shlU_bit s _ i s0 hi, one_bit, Bool.or_comm]
  congr 1
  · rw [decide_eq_decide]; omega
  · unfold inW
    by_cases hd : (q - h).toNat ≤ i
    · have e : (h - (q - (i : Int))).toNat = i - (q - h).toNat := by omega
      rw [e, decide_eq_true hd, decide_eq_true (show q - (i : Int) ≤ h by omega), decide_eq_true (show h - (q - (i : Int)) < 64 by omega)]
      rfl
    · rw [decide_eq_false hd, decide_eq_false (show ¬ q - (i : Int) ≤ h by omega)]
      rfl

/-- A seqno too far below. -/
theorem spec_far {h s q : Int} (hq : ¬ h < q) (hf : ¬ h - q < 64) : Spec h s q false h s :=
  ⟨by simp [fresh, hq, hf], (fun _ => ⟨rfl, rfl⟩), (fun h => by cases h)⟩

/-- A seqno that was received. -/
theorem spec_old {h s q : Int} (hq : ¬ h < q) (hf : h - q < 64) (hb : s.toNat.testBit (h - q).toNat = true) : Spec h s q false h s := by
  have hq' : q ≤ h := by omega
  exact ⟨by simp [fresh, inW, hq, hf, hb, hq'], (fun _ => ⟨rfl, rfl⟩), (fun h => by cases h)⟩

/-- A seqno within the window that was not received. -/
theorem spec_in {h s q : Int} (s0 : 0 ≤ s) (s1 : s < 18446744073709551616) (hq : ¬ h < q) (hf : h - q < 64) (hb : s.toNat.testBit (h - q).toNat = false) : Spec h s q true h (bits .or .u64 s (2 ^ (h - q).toNat)) := by
  have hq' : q ≤ h := by omega
  have hp := pow_bd (show (h - q).toNat < 64 by omega)
  have ho := or_bd s _ s0 s1 hp.1 hp.2
  refine ⟨by simp [fresh, inW, hf, hb], (fun h => by cases h), fun _ => ⟨by rw [if_neg hq], ho.1, ho.2, fun i hi => ?_⟩⟩
  rw [or_bit _ _ s0 s1 hp.1 hp.2, pow_bit, Bool.or_comm]
  congr 1
  · rw [decide_eq_decide]; omega
  · unfold inW
    have e : (h - (h - (i : Int))).toNat = i := by omega
    rw [e, decide_eq_true (show h - (i : Int) ≤ h by omega), decide_eq_true (show h - (h - (i : Int)) < 64 by omega)]
    rfl

/-- 's & (1 << back) != 0' tells the bit. -/
theorem and_bit64 {s : Int} {b : Nat} (s0 : 0 ≤ s) (s1 : s < 18446744073709551616) (hb : b < 64) : (bits .and .u64 s (2 ^ b) != 0) = s.toNat.testBit b := by
  have hp := pow_bd hb
  rw [u64_and s _ s0 s1 hp.1 hp.2, toNat_two_pow, nat_bit, Nat.testBit_eq_decide_div_mod_eq]
  have := Nat.mod_lt (s.toNat / 2 ^ b) (show 0 < 2 by omega)
  have h2 := Nat.two_pow_pos b
  by_cases h : s.toNat / 2 ^ b % 2 = 1
  · rw [h, decide_eq_true rfl, Nat.one_mul, bne_iff_ne]
    generalize 2 ^ b = T at h2
    omega
  · have h0 : s.toNat / 2 ^ b % 2 = 0 := by omega
    simp [h0]

/-- '(s >> back) & 1 == 1' tells the bit. -/
theorem shr_bit64 {s : Int} {b : Nat} (s0 : 0 ≤ s) (s1 : s < 18446744073709551616) : (bits .and .u64 (s / 2 ^ b) 1 == 1) = s.toNat.testBit b := by
  obtain ⟨S, rfl⟩ := Int.eq_ofNat_of_zero_le s0
  have e : ((S : Int) / 2 ^ b) = ((S / 2 ^ b : Nat) : Int) := by simp
  have hle := Nat.div_le_self S (2 ^ b)
  rw [e]
  generalize hT : S / 2 ^ b = T at hle
  rw [u64_and _ _ (by omega) (by omega) (by omega) (by omega), Int.toNat_natCast, show (1 : Int).toNat = 1 from rfl, nat_mask1, Nat.testBit_eq_decide_div_mod_eq, Int.toNat_natCast, hT]
  by_cases h : T % 2 = 1
  · simp [h]
  · have h0 : T % 2 = 0 := by omega
    simp [h0]
end Go.Proofs.Qxb6604271aMods
