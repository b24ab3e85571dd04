/-
  Seat b6604271aM: the walk of FnAcceptMatchesWindowSet (function 6).
-/
import Derived.Test.Qxb6604271aModsAcc
namespace Go.Proofs.Qxb6604271aMods
open Go.RowKit

theorem wrap_pow {k : Nat} (hk : k < 64) : IntKind.u64.wrap (2 ^ k) = 2 ^ k := by
  have := pow_bd hk
  rw [IntKind.wrap_u64]; omega
theorem wrap_pow' {k : Nat} (hk : k < 64) : (2 : Int) ^ k % 18446744073709551616 = 2 ^ k := by
  have := pow_bd hk
  omega

theorem fresh_up {h s q : Int} (hq : h < q) : fresh h s q = true := by unfold fresh; rw [decide_eq_true hq]; rfl
theorem fresh_in {h s q : Int} (hf : h - q < 64) (hw : inW h s q = false) : fresh h s q = true := by unfold fresh; rw [decide_eq_true hf, hw]; simp
theorem fresh_old {h s q : Int} (hq : ¬ h < q) (hw : inW h s q = true) : fresh h s q = false := by unfold fresh; rw [decide_eq_false hq, hw]; simp
theorem fresh_far {h s q : Int} (hq : ¬ h < q) (hf : ¬ h - q < 64) : fresh h s q = false := by unfold fresh; rw [decide_eq_false hq, decide_eq_false hf]; rfl

set_option maxHeartbeats 400000 in
theorem win_neg (h s q : Int) (hn : h < 0 ∨ q < 1) (w : World) :
    Calls Trym.prog 6 #[.int .i64 h, .int .u64 s, .int .i64 q] w fun e w' => e = .returned (.bool true) ∧ Below w.heap.size w w' := by
  by_cases c1 : h < 0
  · go_enter Trym.func6, Trym.ntmps6
    go_wp2
    go_ret
    exact ⟨rfl, Below.refl _ _⟩
  · have c2 : q < 1 := by omega
    go_enter Trym.func6, Trym.ntmps6
    go_wp2
    go_ret
    exact ⟨rfl, Below.refl _ _⟩

set_option maxHeartbeats 1000000 in
theorem win_up (h s q : Int) (h0 : 0 ≤ h) (h1 : h < 9223372036854775808) (s0 : 0 ≤ s) (s1 : s < 18446744073709551616) (hq1 : 1 ≤ q) (hq2 : q < 9223372036854775808) (hq : h < q) (w : World) :
    Calls Trym.prog 6 #[.int .i64 h, .int .u64 s, .int .i64 q] w fun e w' => e = .returned (.bool true) ∧ Below w.heap.size w w' := by
  have c1 : ¬ h < 0 := by omega
  have c2 : ¬ q < 1 := by omega
  go_enter Trym.func6, Trym.ntmps6
  go_wp2_with fail
  refine (zzaccept_any h s q h0 h1 s0 s1 hq1 hq2 _).mono ?_
  rintro e w1 ⟨ok, h', s', rfl, hsp, hbel⟩
  obtain ⟨e1, e2, e3⟩ := hsp
  have eok : ok = true := by rw [e1]; exact fresh_up hq
  subst eok
  obtain ⟨e4, hs0, hs1, hbits⟩ := e3 rfl
  rw [if_pos hq] at e4
  subst e4
  have HB : Hid (∀ i : Nat, i < 64 → s'.toNat.testBit i = (decide (h' - i = h') || inW h s (h' - i))) := hbits
  clear e1 e2 e3 hbits
  go_wp2
  go_loop [12] (fun i => ∃ k : Nat, k ≤ 64 ∧ i = .int .i64 k) (fun i => 64 - (intOf i).toNat)
  case atStart => exact ⟨0, by omega, rfl⟩
  case round =>
    obtain ⟨k, hk, rfl⟩ := hrel
    by_cases hk2 : k < 64
    · have hkI : (k : Int) < 64 := by omega
      have hx : IntKind.u64.wrap (2 ^ k) = 2 ^ k := wrap_pow hk2
      have hx' : (2 : Int) ^ k % 18446744073709551616 = 2 ^ k := wrap_pow' hk2
      have HY : Hid ((bits .and .u64 s' (2 ^ k) != 0) = (decide (h' - (k : Int) = h') || inW h s (h' - k))) := (and_bit64 hs0 hs1 hk2).trans (HB.out k hk2)
      by_cases hkq : h' - (k : Int) = h'
      · have hkq' : (h' - (k : Int) == h') = true := by simpa using hkq
        have hy : (bits .and .u64 s' (2 ^ k) != 0) = true := by rw [HY.out, decide_eq_true hkq]; rfl
        clear hkq
        go_wp2
        go_round
        case rel => exact ⟨k + 1, by omega, by go_num⟩
        case measure => simp [intOf]; omega
      · have hkq' : (h' - (k : Int) == h') = false := by simpa using hkq
        cases hr : inW h s (h' - k) with
        | true =>
          have hy : (bits .and .u64 s' (2 ^ k) != 0) = true := by rw [HY.out, hr]; simp
          have HR : Hid (inW h s (h' - k) = true) := hr
          clear hr hkq
          go_wp2_with (go_at_call 13; refine (inwin_to h s (h' - k) true s0 s1 (by omega) HR.out _).mono ?_; rintro e w' ⟨rfl, rfl⟩)
          go_round
          case rel => exact ⟨k + 1, by omega, by go_num⟩
          case measure => simp [intOf]; omega
        | false =>
          have hy : (bits .and .u64 s' (2 ^ k) != 0) = false := by rw [HY.out, hr, decide_eq_false hkq]; rfl
          have HR : Hid (inW h s (h' - k) = false) := hr
          clear hr hkq
          go_wp2_with (go_at_call 13; refine (inwin_to h s (h' - k) false s0 s1 (by omega) HR.out _).mono ?_; rintro e w' ⟨rfl, rfl⟩)
          go_round
          case rel => exact ⟨k + 1, by omega, by go_num⟩
          case measure => simp [intOf]; omega
    · have hke : k = 64 := by omega
      subst hke
      go_wp2
      go_ret
      exact ⟨rfl, hbel⟩

set_option maxHeartbeats 1000000 in
theorem win_in (h s q : Int) (h0 : 0 ≤ h) (h1 : h < 9223372036854775808) (s0 : 0 ≤ s) (s1 : s < 18446744073709551616) (hq1 : 1 ≤ q) (hq2 : q < 9223372036854775808) (hq : ¬ h < q) (hf : h - q < 64) (hw : inW h s q = false) (w : World) :
    Calls Trym.prog 6 #[.int .i64 h, .int .u64 s, .int .i64 q] w fun e w' => e = .returned (.bool true) ∧ Below w.heap.size w w' := by
  have c1 : ¬ h < 0 := by omega
  have c2 : ¬ q < 1 := by omega
  have HW : Hid (inW h s q = false) := hw
  clear hw
  go_enter Trym.func6, Trym.ntmps6
  go_wp2_with fail
  refine (zzaccept_any h s q h0 h1 s0 s1 hq1 hq2 _).mono ?_
  rintro e w1 ⟨ok, h', s', rfl, hsp, hbel⟩
  obtain ⟨e1, e2, e3⟩ := hsp
  have eok : ok = true := by rw [e1]; exact fresh_in hf HW.out
  subst eok
  obtain ⟨e4, hs0, hs1, hbits⟩ := e3 rfl
  rw [if_neg (by omega)] at e4
  subst e4
  have HB : Hid (∀ i : Nat, i < 64 → s'.toNat.testBit i = (decide (h' - i = q) || inW h' s (h' - i))) := hbits
  clear e1 e2 e3 hbits
  go_wp2_with (go_at_call 13; refine (inwin_to h' s q false s0 s1 (by omega) HW.out _).mono ?_; rintro e w' ⟨rfl, rfl⟩)
  go_loop [12] (fun i => ∃ k : Nat, k ≤ 64 ∧ i = .int .i64 k) (fun i => 64 - (intOf i).toNat)
  case atStart => exact ⟨0, by omega, rfl⟩
  case round =>
    obtain ⟨k, hk, rfl⟩ := hrel
    by_cases hk2 : k < 64
    · have hkI : (k : Int) < 64 := by omega
      have hx : IntKind.u64.wrap (2 ^ k) = 2 ^ k := wrap_pow hk2
      have hx' : (2 : Int) ^ k % 18446744073709551616 = 2 ^ k := wrap_pow' hk2
      have HY : Hid ((bits .and .u64 s' (2 ^ k) != 0) = (decide (h' - (k : Int) = q) || inW h' s (h' - k))) := (and_bit64 hs0 hs1 hk2).trans (HB.out k hk2)
      by_cases hkq : h' - (k : Int) = q
      · have hkq' : (h' - (k : Int) == q) = true := by simpa using hkq
        have hy : (bits .and .u64 s' (2 ^ k) != 0) = true := by rw [HY.out, decide_eq_true hkq]; rfl
        clear hkq
        go_wp2
        go_round
        case rel => exact ⟨k + 1, by omega, by go_num⟩
        case measure => simp [intOf]; omega
      · have hkq' : (h' - (k : Int) == q) = false := by simpa using hkq
        cases hr : inW h' s (h' - k) with
        | true =>
          have hy : (bits .and .u64 s' (2 ^ k) != 0) = true := by rw [HY.out, hr]; simp
          have HR : Hid (inW h' s (h' - k) = true) := hr
          clear hr hkq
          go_wp2_with (go_at_call 13; refine (inwin_to h' s (h' - k) true s0 s1 (by omega) HR.out _).mono ?_; rintro e w' ⟨rfl, rfl⟩)
          go_round
          case rel => exact ⟨k + 1, by omega, by go_num⟩
          case measure => simp [intOf]; omega
        | false =>
          have hy : (bits .and .u64 s' (2 ^ k) != 0) = false := by rw [HY.out, hr, decide_eq_false hkq]; rfl
          have HR : Hid (inW h' s (h' - k) = false) := hr
          clear hr hkq
          go_wp2_with (go_at_call 13; refine (inwin_to h' s (h' - k) false s0 s1 (by omega) HR.out _).mono ?_; rintro e w' ⟨rfl, rfl⟩)
          go_round
          case rel => exact ⟨k + 1, by omega, by go_num⟩
          case measure => simp [intOf]; omega
    · have hke : k = 64 := by omega
      subst hke
      go_wp2
      go_ret
      exact ⟨rfl, hbel⟩

set_option maxHeartbeats 400000 in
theorem win_old (h s q : Int) (h0 : 0 ≤ h) (h1 : h < 9223372036854775808) (s0 : 0 ≤ s) (s1 : s < 18446744073709551616) (hq1 : 1 ≤ q) (hq2 : q < 9223372036854775808) (hq : ¬ h < q) (hf : h - q < 64) (hw : inW h s q = true) (w : World) :
    Calls Trym.prog 6 #[.int .i64 h, .int .u64 s, .int .i64 q] w fun e w' => e = .returned (.bool true) ∧ Below w.heap.size w w' := by
  have c1 : ¬ h < 0 := by omega
  have c2 : ¬ q < 1 := by omega
  have hdq : decide (h < q) = false := decide_eq_false hq
  have HW : Hid (inW h s q = true) := hw
  clear hw
  go_enter Trym.func6, Trym.ntmps6
  go_wp2_with fail
  refine (zzaccept_any h s q h0 h1 s0 s1 hq1 hq2 _).mono ?_
  rintro e w1 ⟨ok, h', s', rfl, hsp, hbel⟩
  obtain ⟨e1, e2, e3⟩ := hsp
  have eok : ok = false := by rw [e1]; exact fresh_old (by omega) HW.out
  subst eok
  obtain ⟨e4, e5⟩ := e2 rfl
  subst e4 e5
  clear e1 e2 e3
  go_wp2_with (go_at_call 13; refine (inwin_to h' s' q true s0 s1 (by omega) HW.out _).mono ?_; rintro e w' ⟨rfl, rfl⟩)
  go_ret
  exact ⟨rfl, hbel⟩

set_option maxHeartbeats 400000 in
theorem win_far (h s q : Int) (h0 : 0 ≤ h) (h1 : h < 9223372036854775808) (s0 : 0 ≤ s) (s1 : s < 18446744073709551616) (hq1 : 1 ≤ q) (hq2 : q < 9223372036854775808) (hq : ¬ h < q) (hf : ¬ h - q < 64) (w : World) :
    Calls Trym.prog 6 #[.int .i64 h, .int .u64 s, .int .i64 q] w fun e w' => e = .returned (.bool true) ∧ Below w.heap.size w w' := by
  have c1 : ¬ h < 0 := by omega
  have c2 : ¬ q < 1 := by omega
  have hdq : decide (h < q) = false := decide_eq_false hq
  go_enter Trym.func6, Trym.ntmps6
  go_wp2_with fail
  refine (zzaccept_any h s q h0 h1 s0 s1 hq1 hq2 _).mono ?_
  rintro e w1 ⟨ok, h', s', rfl, hsp, hbel⟩
  obtain ⟨e1, e2, e3⟩ := hsp
  have eok : ok = false := by rw [e1]; exact fresh_far (by omega) (by omega)
  subst eok
  obtain ⟨e4, e5⟩ := e2 rfl
  subst e4 e5
  clear e1 e2 e3
  go_wp2
  go_ret
  exact ⟨rfl, hbel⟩

/-- FnAcceptMatchesWindowSet, whatever the window and the seqno. -/
theorem win_any (h s q : Int) (h1 : h < 9223372036854775808) (s0 : 0 ≤ s) (s1 : s < 18446744073709551616) (hq2 : q < 9223372036854775808) (w : World) :
    Calls Trym.prog 6 #[.int .i64 h, .int .u64 s, .int .i64 q] w fun e w' => e = .returned (.bool true) ∧ Below w.heap.size w w' := by
  by_cases hn : h < 0 ∨ q < 1
  · exact win_neg h s q hn w
  by_cases hq : h < q
  · exact win_up h s q (by omega) h1 s0 s1 (by omega) hq2 hq w
  by_cases hf : h - q < 64
  · cases hw : inW h s q with
    | true => exact win_old h s q (by omega) h1 s0 s1 (by omega) hq2 hq hf hw w
    | false => exact win_in h s q (by omega) h1 s0 s1 (by omega) hq2 hq hf hw w
  · exact win_far h s q (by omega) h1 s0 s1 (by omega) hq2 hq hf w
end Go.Proofs.Qxb6604271aMods
