/-
  Seat b6604271aM: nearkey.length (function 16), its shim ZZLength (9) and the law's own bound zzBytes_FnLengthSplitAdds (8), by their contracts.
-/
import Derived.Test.Qxb6604271aModsRows
import Derived.WalkKit
import Derived.WalkSpells
import Derived.WalkLawsBesides
import Derived.Deep.QuietTactic
import Derived.BigQuiet
namespace Go.Proofs.Qxb6604271aMods
open Go.RowKit

/-- The sum of the first n lengths. -/
def sumL (L : Nat → Nat) : Nat → Nat
  | 0 => 0
  | n + 1 => sumL L n + L n

theorem sumL_le (L : Nat → Nat) {m n : Nat} (h : m ≤ n) : sumL L m ≤ sumL L n := by
  induction n with
  | zero => have : m = 0 := by omega
            subst this; exact Nat.le_refl _
  | succ n ih =>
    by_cases e : m = n + 1
    · subst e; exact Nat.le_refl _
    · have := ih (by omega); simp only [sumL]; omega
theorem sumL_lt (L : Nat → Nat) {m n : Nat} (h : m < n) : sumL L m + L m ≤ sumL L n := by
  have := sumL_le L (m := m + 1) (n := n) h
  simpa [sumL] using this
theorem sumL_split (L : Nat → Nat) (k n : Nat) : sumL L (k + n) = sumL L k + sumL (fun i => L (k + i)) n := by
  induction n with
  | zero => simp [sumL]
  | succ n ih => rw [← Nat.add_assoc]; simp only [sumL, ih]; omega

/-- A slice of slices: its cells, one a row. -/
def Lens (w : World) (ao : Option Addr) (n : Nat) (L : Nat → Nat) : Prop :=
  n = 0 ∨ ∃ (b off : Nat) (A : Nat → Option Addr) (C : Nat → Nat), ao = some ⟨b, off, none⟩ ∧ ∀ i, i < n → w.cell? ⟨b, off + i, none⟩ = some (.slice (A i) (L i) (C i))

set_option maxHeartbeats 400000 in
theorem length_zero (ao : Option Addr) (cap : Nat) (w : World) :
    Calls Trym.prog 16 #[.slice ao 0 cap] w fun e w' => e = .returned (.int .i64 0) ∧ w' = w := by
  go_enter Trym.func16, Trym.ntmps16
  go_wp2
  refine wp_loop_rounds 1 ?_
  rw [rounds_succ]
  go_wp2
  go_ret
  exact ⟨rfl, rfl⟩

set_option maxHeartbeats 400000 in
theorem length_row (b off n cap : Nat) (L : Nat → Nat) (A : Nat → Option Addr) (C : Nat → Nat) (w : World) (hn : n ≤ 1048576) (hs : sumL L n ≤ 1048576)
    (hc : ∀ i, i < n → w.cell? ⟨b, off + i, none⟩ = some (.slice (A i) (L i) (C i))) :
    Calls Trym.prog 16 #[.slice (some ⟨b, off, none⟩) n cap] w fun e w' => e = .returned (.int .i64 (sumL L n)) ∧ w' = w := by
  go_enter Trym.func16, Trym.ntmps16
  go_wp2
  go_loop [3, 8] (fun s i => ∃ k t : Nat, k ≤ n ∧ i = .int .i64 k ∧ s = .int .i64 t ∧ t ≤ 1048576 ∧ Hid (t = sumL L k)) (fun _ i => n - (intOf i).toNat)
  case atStart => exact ⟨0, 0, by omega, rfl, rfl, by omega, rfl⟩
  case round =>
    obtain ⟨k, t, hk, rfl, rfl, ht, HT⟩ := hrel
    by_cases hkn : k < n
    · have hck := hc k hkn
      have hl : t + L k ≤ 1048576 := by have := sumL_lt L hkn; have := HT.out; omega
      have hl' : (t : Int) + (L k : Int) ≤ 1048576 := by omega
      clear hc hs
      go_wp2
      go_round
      case rel => exact ⟨k + 1, t + L k, by omega, by go_num, by go_num, hl, (by show _ = _; have := HT.out; simp [sumL, this])⟩
      case measure => simp [intOf]; omega
    · have hke : k = n := by omega
      subst hke
      go_wp2
      go_ret
      exact ⟨by rw [← HT.out]; rfl, rfl⟩

theorem length_any (ao : Option Addr) (n cap : Nat) (L : Nat → Nat) (w : World) (hn : n ≤ 1048576) (hs : sumL L n ≤ 1048576) (hl : Lens w ao n L) :
    Calls Trym.prog 16 #[.slice ao n cap] w fun e w' => e = .returned (.int .i64 (sumL L n)) ∧ w' = w := by
  rcases hl with rfl | ⟨b, off, A, C, rfl, hc⟩
  · exact length_zero ao cap w
  · exact length_row b off n cap L A C w hn hs hc

set_option maxHeartbeats 400000 in
theorem zzlen_any (ao : Option Addr) (n cap : Nat) (L : Nat → Nat) (w : World) (hn : n ≤ 1048576) (hs : sumL L n ≤ 1048576) (hl : Lens w ao n L) :
    Calls Trym.prog 9 #[.slice ao n cap] w fun e w' => e = .returned (.int .i64 (sumL L n)) ∧ w' = w := by
  go_enter Trym.func9, Trym.ntmps9
  go_wp2_with (go_at_call 16; refine (length_any ao n cap L _ hn hs hl).mono ?_; rintro e w' ⟨rfl, rfl⟩)
  go_ret
  exact ⟨rfl, rfl⟩

/-- What zzBytes answers. -/
def okB (n : Nat) (L : Nat → Nat) : Bool := decide (n + sumL L n ≤ 1048576)
theorem okB_yes {n : Nat} {L : Nat → Nat} (h : n + sumL L n ≤ 1048576) : okB n L = true := decide_eq_true h
theorem okB_no {n : Nat} {L : Nat → Nat} (h : 1048576 < n + sumL L n) : okB n L = false := decide_eq_false (by omega)
theorem okB_iff {n : Nat} {L : Nat → Nat} (h : okB n L = true) : n + sumL L n ≤ 1048576 := of_decide_eq_true h

set_option maxHeartbeats 400000 in
theorem zzbytes_many (ao : Option Addr) (n cap : Nat) (x : Int) (w : World) (hn : 1048576 < n) :
    Calls Trym.prog 8 #[.slice ao n cap, .int .i64 x] w fun e w' => e = .returned (.bool false) ∧ w' = w := by
  have hn' : (1048576 : Int) < (n : Int) := by omega
  go_enter Trym.func8, Trym.ntmps8
  go_wp2
  go_ret
  exact ⟨rfl, rfl⟩

set_option maxHeartbeats 400000 in
theorem zzbytes_zero (ao : Option Addr) (cap : Nat) (x : Int) (w : World) :
    Calls Trym.prog 8 #[.slice ao 0 cap, .int .i64 x] w fun e w' => e = .returned (.bool true) ∧ w' = w := by
  go_enter Trym.func8, Trym.ntmps8
  go_wp2
  refine wp_loop_rounds 1 ?_
  rw [rounds_succ]
  go_wp2
  go_ret
  exact ⟨rfl, rfl⟩

set_option maxHeartbeats 1000000 in
theorem zzbytes_row (b off n cap : Nat) (x : Int) (L : Nat → Nat) (A : Nat → Option Addr) (C : Nat → Nat) (w : World) (hn : n ≤ 1048576)
    (hc : ∀ i, i < n → w.cell? ⟨b, off + i, none⟩ = some (.slice (A i) (L i) (C i))) :
    Calls Trym.prog 8 #[.slice (some ⟨b, off, none⟩) n cap, .int .i64 x] w fun e w' => e = .returned (.bool (okB n L)) ∧ w' = w := by
  have hn' : (n : Int) ≤ 1048576 := by omega
  go_enter Trym.func8, Trym.ntmps8
  go_wp2
  go_loop [5, 6] (fun s i => ∃ k t : Nat, k ≤ n ∧ i = .int .i64 k ∧ s = .int .i64 t ∧ t ≤ 1048576 ∧ Hid (t = n + sumL L k)) (fun _ i => n - (intOf i).toNat)
  case atStart => exact ⟨0, n, by omega, rfl, rfl, by omega, rfl⟩
  case round =>
    obtain ⟨k, t, hk, rfl, rfl, ht, HT⟩ := hrel
    by_cases hkn : k < n
    · have hck := hc k hkn
      have hsl := sumL_lt L hkn
      have HN : Hid (1048576 < t + L k → okB n L = false) := fun h => okB_no (by have := HT.out; omega)
      clear hc hsl
      by_cases h1 : 1048576 < L k
      · have h1' : (1048576 : Int) < (L k : Int) := by omega
        have HF : Hid (okB n L = false) := HN.out (by omega)
        go_wp2
        go_ret
        exact ⟨by rw [HF.out]; rfl, rfl⟩
      · have h1' : ¬ (1048576 : Int) < (L k : Int) := by omega
        by_cases h2 : 1048576 < t + L k
        · have h2' : (1048576 : Int) < (t : Int) + (L k : Int) := by omega
          have HF : Hid (okB n L = false) := HN.out h2
          go_wp2
          go_ret
          exact ⟨by rw [HF.out]; rfl, rfl⟩
        · have h2' : ¬ (1048576 : Int) < (t : Int) + (L k : Int) := by omega
          go_wp2
          go_round
          case rel => exact ⟨k + 1, t + L k, by omega, by go_num, by go_num, by omega, (by show _ = _; have := HT.out; simp [sumL, this]; omega)⟩
          case measure => simp [intOf]; omega
    · have hke : k = n := by omega
      subst hke
      have HF : Hid (okB k L = true) := okB_yes (by have := HT.out; omega)
      go_wp2
      go_ret
      exact ⟨by rw [HF.out]; rfl, rfl⟩

theorem zzbytes_any (ao : Option Addr) (n cap : Nat) (x : Int) (L : Nat → Nat) (w : World) (hl : Lens w ao n L) :
    Calls Trym.prog 8 #[.slice ao n cap, .int .i64 x] w fun e w' => e = .returned (.bool (okB n L)) ∧ w' = w := by
  by_cases h : 1048576 < n
  · rw [okB_no (by omega)]; exact zzbytes_many ao n cap x w h
  rcases hl with rfl | ⟨b, off, A, C, rfl, hc⟩
  · rw [okB_yes (by simp [sumL])]; exact zzbytes_zero ao cap x w
  · exact zzbytes_row b off n cap x L A C w (by omega) hc
end Go.Proofs.Qxb6604271aMods
