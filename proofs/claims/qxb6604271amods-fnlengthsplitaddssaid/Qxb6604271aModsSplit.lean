/-
  Seat b6604271aM: the walk of FnLengthSplitAdds (function 3).
-/
import Derived.Test.Qxb6604271aModsLen
namespace Go.Proofs.Qxb6604271aMods
open Go.RowKit

set_option maxHeartbeats 400000 in
theorem split_no (ao : Option Addr) (n cap : Nat) (x : Int) (L : Nat → Nat) (w : World) (hl : Lens w ao n L) (h : okB n L = false) :
    Calls Trym.prog 3 #[.slice ao n cap, .int .i64 x] w fun e w' => e = .returned (.bool true) ∧ Below w.heap.size w w' := by
  go_enter Trym.func3, Trym.ntmps3
  go_wp2_with (go_at_call 8; refine (zzbytes_any ao n cap x L _ hl).mono ?_; rintro e w' ⟨rfl, rfl⟩)
  go_ret
  exact ⟨rfl, Below.refl _ _⟩

set_option maxHeartbeats 400000 in
theorem split_many (ao : Option Addr) (n cap : Nat) (x : Int) (L : Nat → Nat) (w : World) (hl : Lens w ao n L) (h : okB n L = true) (hn : 65536 < n ∨ 1048576 < 24 * n) :
    Calls Trym.prog 3 #[.slice ao n cap, .int .i64 x] w fun e w' => e = .returned (.bool true) ∧ Below w.heap.size w w' := by
  have hn0 : n ≤ 1048576 := by have := okB_iff h; omega
  by_cases h1 : (65536 : Int) < (n : Int)
  · go_enter Trym.func3, Trym.ntmps3
    go_wp2_with (go_at_call 8; refine (zzbytes_any ao n cap x L _ hl).mono ?_; rintro e w' ⟨rfl, rfl⟩)
    go_ret
    exact ⟨rfl, Below.refl _ _⟩
  · have h2 : (1048576 : Int) < 24 * (n : Int) := by omega
    go_enter Trym.func3, Trym.ntmps3
    go_wp2_with (go_at_call 8; refine (zzbytes_any ao n cap x L _ hl).mono ?_; rintro e w' ⟨rfl, rfl⟩)
    go_ret
    exact ⟨rfl, Below.refl _ _⟩

theorem zzlen_nil (w : World) : Calls Trym.prog 9 #[.slice none 0 0] w fun e w' => e = .returned (.int .i64 0) ∧ w' = w := by
  have := zzlen_any none 0 0 (fun _ => 0) w (by omega) (by simp [sumL]) (.inl rfl)
  simpa [sumL] using this
theorem zzlen_one (b off cap l c : Nat) (A : Option Addr) (w : World) (hl : l ≤ 1048576) (h : w.cell? ⟨b, off, none⟩ = some (.slice A l c)) :
    Calls Trym.prog 9 #[.slice (some ⟨b, off, none⟩) 1 cap] w fun e w' => e = .returned (.int .i64 l) ∧ w' = w := by
  have hc : ∀ i, i < 1 → w.cell? ⟨b, off + i, none⟩ = some (.slice A l c) := fun i hi => by
    have : i = 0 := by omega
    subst this
    exact h
  have := zzlen_any (some ⟨b, off, none⟩) 1 cap (fun _ => l) w (by omega) (by simpa [sumL] using hl) (.inr ⟨b, off, fun _ => A, fun _ => c, rfl, hc⟩)
  simpa [sumL] using this

/-- What the walk behind the loop is told: the index is out of the slice's range. -/
theorem split_out (b off n cap : Nat) (x : Int) (L : Nat → Nat) (A : Nat → Option Addr) (C : Nat → Nat) (w : World) (hc : ∀ i, i < n → w.cell? ⟨b, off + i, none⟩ = some (.slice (A i) (L i) (C i))) (h : okB n L = true) (hn : 24 * n ≤ 1048576) (hx : x < 0 ∨ (n : Int) < x) :
    Calls Trym.prog 3 #[.slice (some ⟨b, off, none⟩) n cap, .int .i64 x] w fun e w' => e = .returned (.bool true) ∧ Below w.heap.size w w' := by
  have hl : Lens w (some ⟨b, off, none⟩) n L := .inr ⟨b, off, A, C, rfl, hc⟩
  have hb := okB_iff h
  have HB : Hid (n + sumL L n ≤ 1048576) := hb
  clear hb
  have hn1 : ¬ (65536 : Int) < (n : Int) := by omega
  have hn2 : ¬ (1048576 : Int) < 24 * (n : Int) := by omega
  have hn3 : (n : Int) ≤ 43690 := by omega
  go_enter Trym.func3, Trym.ntmps3
  go_wp2_with (go_at_call 8; refine (zzbytes_any (some ⟨b, off, none⟩) n cap x L _ hl).mono ?_; rintro e w' ⟨rfl, rfl⟩)
  go_loop [5, 6] (fun s i => ∃ k t : Nat, k ≤ n ∧ i = .int .i64 k ∧ s = .int .i64 t ∧ t ≤ 1048576 ∧ Hid (t = 24 * n + sumL L k)) (fun _ i => n - (intOf i).toNat)
  case atStart => exact ⟨0, 24 * n, by omega, rfl, by go_num, by omega, rfl⟩
  case round =>
    obtain ⟨k, t, hk, rfl, rfl, ht, HT⟩ := hrel
    by_cases hkn : k < n
    · have hck := hc k hkn
      have hsl : L k ≤ 1048576 := by have := sumL_lt L hkn; have := HB.out; omega
      clear hc
      by_cases h2 : 1048576 < t + L k
      · have h2' : (1048576 : Int) < (t : Int) + (L k : Int) := by omega
        go_wp2
        go_ret
        exact ⟨rfl, Below.refl _ _⟩
      · have h2' : ¬ (1048576 : Int) < (t : Int) + (L k : Int) := by omega
        go_wp2
        go_round
        case rel => exact ⟨k + 1, t + L k, by omega, by go_num, by go_num, by omega, (by show _ = _; have := HT.out; simp [sumL, this]; omega)⟩
        case measure => simp [intOf]; omega
    · have hke : k = n := by omega
      subst hke
      rcases hx with hx | hx
      · go_wp2
        go_ret
        exact ⟨rfl, Below.refl _ _⟩
      · have hx' : ¬ x < 0 := by omega
        go_wp2
        go_ret
        exact ⟨rfl, Below.refl _ _⟩

set_option maxHeartbeats 1000000 in
theorem split_in (b off n cap : Nat) (x : Nat) (L : Nat → Nat) (A : Nat → Option Addr) (C : Nat → Nat) (w : World) (hc : ∀ i, i < n → w.cell? ⟨b, off + i, none⟩ = some (.slice (A i) (L i) (C i))) (h : okB n L = true) (hn : 24 * n ≤ 1048576) (hcap : n ≤ cap) (hm : cap ≤ 9223372036854775807) (hx : x < n) :
    Calls Trym.prog 3 #[.slice (some ⟨b, off, none⟩) n cap, .int .i64 (x : Int)] w fun e w' => e = .returned (.bool true) ∧ Below w.heap.size w w' := by
  have hl : Lens w (some ⟨b, off, none⟩) n L := .inr ⟨b, off, A, C, rfl, hc⟩
  have hb := okB_iff h
  have HB : Hid (n + sumL L n ≤ 1048576) := hb
  clear hb
  have hn1 : ¬ (65536 : Int) < (n : Int) := by omega
  have hn2 : ¬ (1048576 : Int) < 24 * (n : Int) := by omega
  have hn3 : (n : Int) ≤ 43690 := by omega
  have hx0 : ¬ (x : Int) < 0 := by omega
  have hx1 : ¬ (n : Int) < (x : Int) := by omega
  have hx2 : (x : Int) < (n : Int) := by omega
  go_enter Trym.func3, Trym.ntmps3
  go_wp2_with (go_at_call 8; refine (zzbytes_any (some ⟨b, off, none⟩) n cap x L _ hl).mono ?_; rintro e w' ⟨rfl, rfl⟩)
  go_loop [5, 6] (fun s i => ∃ k t : Nat, k ≤ n ∧ i = .int .i64 k ∧ s = .int .i64 t ∧ t ≤ 1048576 ∧ Hid (t = 24 * n + sumL L k)) (fun _ i => n - (intOf i).toNat)
  case atStart => exact ⟨0, 24 * n, by omega, rfl, by go_num, by omega, rfl⟩
  case round =>
    obtain ⟨k, t, hk, rfl, rfl, ht, HT⟩ := hrel
    by_cases hkn : k < n
    · have hck := hc k hkn
      have hsl : L k ≤ 1048576 := by have := sumL_lt L hkn; have := HB.out; omega
      clear hc
      by_cases h2 : 1048576 < t + L k
      · have h2' : (1048576 : Int) < (t : Int) + (L k : Int) := by omega
        go_wp2
        go_ret
        exact ⟨rfl, Below.refl _ _⟩
      · have h2' : ¬ (1048576 : Int) < (t : Int) + (L k : Int) := by omega
        go_wp2
        go_round
        case rel => exact ⟨k + 1, t + L k, by omega, by go_num, by go_num, by omega, (by show _ = _; have := HT.out; simp [sumL, this]; omega)⟩
        case measure => simp [intOf]; omega
    · have hke : k = n := by omega
      subst hke
      go_wp2_with fail
      refine (zzlen_any _ k cap L _ (by omega) (by have := HB.out; omega) hl).mono ?_
      rintro e w1 ⟨rfl, hw1⟩
      subst hw1
      go_wp2_with fail
      refine (zzlen_any _ x cap L _ (by omega) (by have := HB.out; have := sumL_le L (Nat.le_of_lt hx); omega) (.inr ⟨b, off, A, C, rfl, fun i hi => hc i (by omega)⟩)).mono ?_
      rintro e w2 ⟨rfl, hw2⟩
      subst hw2
      go_wp2_with fail
      have hsp := sumL_split L x (k - x)
      rw [show x + (k - x) = k by omega] at hsp
      have hle := HB.out
      obtain ⟨R, hR⟩ : ∃ R, R = sumL (fun i => L (x + i)) (k - x) := ⟨_, rfl⟩
      refine (zzlen_any _ (k - x) (cap - x) (fun i => L (x + i)) _ (by omega) (by omega) (.inr ⟨b, off + x, fun i => A (x + i), fun i => C (x + i), rfl, fun i hi => by have := hc (x + i) (by omega); rw [← Nat.add_assoc] at this; exact this⟩)).mono ?_
      rintro e w3 ⟨rfl, hw3⟩
      subst hw3
      rw [← hR] at hsp ⊢
      obtain ⟨S1, hS1⟩ : ∃ S1, S1 = sumL L x := ⟨_, rfl⟩
      obtain ⟨S, hS⟩ : ∃ S, S = sumL L k := ⟨_, rfl⟩
      rw [← hS1, ← hS] at hsp
      rw [← hS1, ← hS]
      have hne : ((S1 : Int) + (R : Int) != (S : Int)) = false := by rw [hsp]; simp
      have hbd : (S1 : Int) + (R : Int) ≤ 1048576 := by omega
      have hcx := hc x hx
      have hx3 : (x : Int) + 1 ≤ (k : Int) := by omega
      have hLx : L x ≤ 1048576 := by have := sumL_lt L hx; omega
      clear hsp hS1 hR hS hle hl hc h HB HT
      go_wp2_with (go_at_call 9; refine (zzlen_nil _).mono ?_; rintro e w' ⟨rfl, rfl⟩)
      go_quiet ((go_at_call 9; exact Calls.quiet_of_same (zzlen_one b (off + x) _ (L x) (C x) (A x) _ hLx hcx)))
      go_wp2
      go_ret
      exact ⟨rfl, below_drewN (Below.refl _ _) _⟩

theorem zzlen_none (ao : Option Addr) (cap : Nat) (w : World) : Calls Trym.prog 9 #[.slice ao 0 cap] w fun e w' => e = .returned (.int .i64 0) ∧ w' = w := by
  have := zzlen_any ao 0 cap (fun _ => 0) w (by omega) (by simp [sumL]) (.inl rfl)
  simpa [sumL] using this

set_option maxHeartbeats 1000000 in
theorem split_end (b off n cap : Nat) (L : Nat → Nat) (A : Nat → Option Addr) (C : Nat → Nat) (w : World) (hc : ∀ i, i < n → w.cell? ⟨b, off + i, none⟩ = some (.slice (A i) (L i) (C i))) (h : okB n L = true) (hn : 24 * n ≤ 1048576) (hcap : n ≤ cap) (hm : cap ≤ 9223372036854775807) :
    Calls Trym.prog 3 #[.slice (some ⟨b, off, none⟩) n cap, .int .i64 (n : Int)] w fun e w' => e = .returned (.bool true) ∧ Below w.heap.size w w' := by
  have hl : Lens w (some ⟨b, off, none⟩) n L := .inr ⟨b, off, A, C, rfl, hc⟩
  have hb := okB_iff h
  have HB : Hid (n + sumL L n ≤ 1048576) := hb
  clear hb
  have hn1 : ¬ (65536 : Int) < (n : Int) := by omega
  have hn2 : ¬ (1048576 : Int) < 24 * (n : Int) := by omega
  have hn3 : (n : Int) ≤ 43690 := by omega
  have hx0 : ¬ (n : Int) < 0 := by omega
  go_enter Trym.func3, Trym.ntmps3
  go_wp2_with (go_at_call 8; refine (zzbytes_any (some ⟨b, off, none⟩) n cap n L _ hl).mono ?_; rintro e w' ⟨rfl, rfl⟩)
  go_loop [5, 6] (fun s i => ∃ k t : Nat, k ≤ n ∧ i = .int .i64 k ∧ s = .int .i64 t ∧ t ≤ 1048576 ∧ Hid (t = 24 * n + sumL L k)) (fun _ i => n - (intOf i).toNat)
  case atStart => exact ⟨0, 24 * n, by omega, rfl, by go_num, by omega, rfl⟩
  case round =>
    obtain ⟨k, t, hk, rfl, rfl, ht, HT⟩ := hrel
    by_cases hkn : k < n
    · have hck := hc k hkn
      have hsl : L k ≤ 1048576 := by have := sumL_lt L hkn; have := HB.out; omega
      clear hc
      by_cases h2 : 1048576 < t + L k
      · have h2' : (1048576 : Int) < (t : Int) + (L k : Int) := by omega
        go_wp2
        go_ret
        exact ⟨rfl, Below.refl _ _⟩
      · have h2' : ¬ (1048576 : Int) < (t : Int) + (L k : Int) := by omega
        go_wp2
        go_round
        case rel => exact ⟨k + 1, t + L k, by omega, by go_num, by go_num, by omega, (by show _ = _; have := HT.out; simp [sumL, this]; omega)⟩
        case measure => simp [intOf]; omega
    · have hke : k = n := by omega
      subst hke
      go_wp2_with fail
      refine (zzlen_any _ k cap L _ (by omega) (by have := HB.out; omega) hl).mono ?_
      rintro e w1 ⟨rfl, hw1⟩
      subst hw1
      go_wp2_with fail
      refine (zzlen_any _ k cap L _ (by omega) (by have := HB.out; omega) hl).mono ?_
      rintro e w2 ⟨rfl, hw2⟩
      subst hw2
      have hle := HB.out
      obtain ⟨S, hS⟩ : ∃ S, S = sumL L k := ⟨_, rfl⟩
      rw [← hS] at hle ⊢
      have hbd : (S : Int) ≤ 1048576 := by omega
      clear hS hle hl hc h HB HT
      go_wp2_with (go_at_call 9; refine (zzlen_none _ _ _).mono ?_; rintro e w' ⟨rfl, rfl⟩)
      all_goals
        go_quiet (fail)
        go_wp2
        go_ret
        exact ⟨rfl, below_drewN (Below.refl _ _) _⟩

set_option maxHeartbeats 1000000 in
theorem split_zero_nil (w : World) (x : Int) :
    Calls Trym.prog 3 #[.slice none 0 0, .int .i64 x] w fun e w' => e = .returned (.bool true) ∧ Below w.heap.size w w' := by
  by_cases h1 : x < 0
  · go_enter Trym.func3, Trym.ntmps3
    go_wp2_with (go_at_call 8; refine (zzbytes_zero none 0 x _).mono ?_; rintro e w' ⟨rfl, rfl⟩)
    refine wp_loop_rounds 1 ?_
    rw [rounds_succ]
    go_wp2
    go_ret
    exact ⟨rfl, Below.refl _ _⟩
  by_cases h2 : 0 < x
  · go_enter Trym.func3, Trym.ntmps3
    go_wp2_with (go_at_call 8; refine (zzbytes_zero none 0 x _).mono ?_; rintro e w' ⟨rfl, rfl⟩)
    refine wp_loop_rounds 1 ?_
    rw [rounds_succ]
    go_wp2
    go_ret
    exact ⟨rfl, Below.refl _ _⟩
  obtain rfl : x = 0 := by omega
  go_enter Trym.func3, Trym.ntmps3
  go_wp2_with (go_at_call 8; refine (zzbytes_zero none 0 0 _).mono ?_; rintro e w' ⟨rfl, rfl⟩)
  refine wp_loop_rounds 1 ?_
  rw [rounds_succ]
  go_wp2_with (go_at_call 9; refine (zzlen_none _ _ _).mono ?_; rintro e w' ⟨rfl, rfl⟩)
  go_quiet (fail)
  go_wp2
  go_ret
  exact ⟨rfl, below_drewN (Below.refl _ _) _⟩

set_option maxHeartbeats 1000000 in
theorem split_zero_some (a : Addr) (cap : Nat) (w : World) (x : Int) :
    Calls Trym.prog 3 #[.slice (some a) 0 cap, .int .i64 x] w fun e w' => e = .returned (.bool true) ∧ Below w.heap.size w w' := by
  by_cases h1 : x < 0
  · go_enter Trym.func3, Trym.ntmps3
    go_wp2_with (go_at_call 8; refine (zzbytes_zero _ cap x _).mono ?_; rintro e w' ⟨rfl, rfl⟩)
    refine wp_loop_rounds 1 ?_
    rw [rounds_succ]
    go_wp2
    go_ret
    exact ⟨rfl, Below.refl _ _⟩
  by_cases h2 : 0 < x
  · go_enter Trym.func3, Trym.ntmps3
    go_wp2_with (go_at_call 8; refine (zzbytes_zero _ cap x _).mono ?_; rintro e w' ⟨rfl, rfl⟩)
    refine wp_loop_rounds 1 ?_
    rw [rounds_succ]
    go_wp2
    go_ret
    exact ⟨rfl, Below.refl _ _⟩
  obtain rfl : x = 0 := by omega
  go_enter Trym.func3, Trym.ntmps3
  go_wp2_with (go_at_call 8; refine (zzbytes_zero _ cap 0 _).mono ?_; rintro e w' ⟨rfl, rfl⟩)
  refine wp_loop_rounds 1 ?_
  rw [rounds_succ]
  go_wp2_with (go_at_call 9; refine (zzlen_none _ _ _).mono ?_; rintro e w' ⟨rfl, rfl⟩)
  go_quiet (fail)
  go_wp2
  go_ret
  exact ⟨rfl, below_drewN (Below.refl _ _) _⟩

/-- FnLengthSplitAdds, whatever the slice and whatever the index. -/
theorem split_any (ao : Option Addr) (n cap : Nat) (x : Int) (L : Nat → Nat) (w : World) (hl : Lens w ao n L) (hcap : n ≤ cap) (hm : cap ≤ 9223372036854775807) (hnil : ao = none → n = 0 ∧ cap = 0) :
    Calls Trym.prog 3 #[.slice ao n cap, .int .i64 x] w fun e w' => e = .returned (.bool true) ∧ Below w.heap.size w w' := by
  by_cases hok : okB n L = false
  · exact split_no ao n cap x L w hl hok
  have hok' : okB n L = true := by simpa using hok
  by_cases hmany : 1048576 < 24 * n
  · exact split_many ao n cap x L w hl hok' (.inr hmany)
  rcases hl with rfl | ⟨b, off, A, C, rfl, hc⟩
  · cases ao with
    | none =>
      obtain ⟨_, rfl⟩ := hnil rfl
      exact split_zero_nil w x
    | some a => exact split_zero_some a cap w x
  · by_cases hx : x < 0 ∨ (n : Int) < x
    · exact split_out b off n cap x L A C w hc hok' (by omega) hx
    obtain ⟨k, rfl⟩ : ∃ k : Nat, x = (k : Int) := ⟨x.toNat, by omega⟩
    by_cases hk : k < n
    · exact split_in b off n cap k L A C w hc hok' (by omega) hcap hm hk
    · obtain rfl : k = n := by omega
      exact split_end b off k cap L A C w hc hok' (by omega) hcap hm
end Go.Proofs.Qxb6604271aMods
