/-
  Seat b6604271aM: (*seqnoWindow).accept (function 18), its shim ZZAccept (12) and inWindow (13), by their contracts.
-/
import Derived.Test.Qxb6604271aModsWin
import Derived.Deep.QuietTactic
import Derived.BigQuiet
namespace Go.Proofs.Qxb6604271aMods
open Go.RowKit

/-- What accept leaves: the window's two cells, and nothing below its block turned. -/
def Left2 (g : Nat) (h s : Int) (w w' : World) : Prop := w'.cell? ⟨g, 0, none⟩ = some (.int .i64 h) ∧ w'.cell? ⟨g, 1, none⟩ = some (.int .u64 s) ∧ Below g w w'

theorem left_keep {g : Nat} {h s : Int} {w : World} (c0 : w.cell? ⟨g, 0, none⟩ = some (.int .i64 h)) (c1 : w.cell? ⟨g, 1, none⟩ = some (.int .u64 s)) (n : Nat) : Left2 g h s w (w.drewN n) :=
  ⟨c0, c1, below_drewN (Below.refl _ _) n⟩
theorem left_up {g : Nat} {h s q Y : Int} {w : World} (c0 : w.cell? ⟨g, 0, none⟩ = some (.int .i64 h)) (c1 : w.cell? ⟨g, 1, none⟩ = some (.int .u64 s)) :
    Left2 g q Y w ((w.setCell ⟨g, 1, none⟩ (.int .u64 Y)).setCell ⟨g, 0, none⟩ (.int .i64 q)).drew := by
  have b1 : Below g w (w.setCell ⟨g, 1, none⟩ (.int .u64 Y)) := (Below.refl _ _).setCell (p := ⟨g, 1, none⟩) (Nat.le_refl g) _
  refine ⟨?_, ?_, (b1.setCell (p := ⟨g, 0, none⟩) (Nat.le_refl g) _).drew⟩
  · simp [go_sem, c0]
  · simp [go_sem, c1]

theorem left_in {g : Nat} {h s Y : Int} {w : World} (c0 : w.cell? ⟨g, 0, none⟩ = some (.int .i64 h)) (c1 : w.cell? ⟨g, 1, none⟩ = some (.int .u64 s)) (n : Nat) :
    Left2 g h Y w ((w.drewN n).setCell ⟨g, 1, none⟩ (.int .u64 Y)) := by
  refine ⟨?_, ?_, (below_drewN (Below.refl _ _) n).setCell (p := ⟨g, 1, none⟩) (Nat.le_refl g) _⟩
  · simp [go_sem, c0]
  · simp [go_sem, c1]

theorem wrap_id {z : Int} (h0 : 0 ≤ z) (h1 : z < 9223372036854775808) : IntKind.i64.wrap z = z := by
  simp [IntKind.wrap, IntKind.bits, IntKind.signed]; omega

set_option maxHeartbeats 400000 in
theorem accept_up (g : Nat) (h s q : Int) (h0 : 0 ≤ h) (hq : h < q) (hq1 : q < 9223372036854775808) (w : World)
    (c0 : w.cell? ⟨g, 0, none⟩ = some (.int .i64 h)) (c1 : w.cell? ⟨g, 1, none⟩ = some (.int .u64 s)) (f0 : w.frozen? ⟨g, 0, none⟩ = false) (f1 : w.frozen? ⟨g, 1, none⟩ = false) :
    Calls Trym.prog 18 #[.pointer (some ⟨g, 0, none⟩), .int .i64 q] w fun e w' => e = .returned (.bool true) ∧ Left2 g q (bits .or .u64 (shlU s (q - h).toNat) 1) w w' := by
  have hd : 0 ≤ q - h := by omega
  have hsh : ∀ w', (Op.shift .shl .u64 s .i64 (IntKind.i64.wrap (q - h))).run Trym.prog w' = .ok (.int .u64 (shlU s (q - h).toNat)) w' := fun w' => by
    rw [wrap_id hd (by omega)]
    simp only [Op.shift, if_neg (show ¬ q - h < 0 by omega)]
    rfl
  go_enter Trym.func18, Trym.ntmps18
  go_wp2
  go_region
  all_goals
    go_wp2
    go_ret
    exact ⟨rfl, left_up c0 c1⟩

set_option maxHeartbeats 400000 in
theorem accept_far (g : Nat) (h s q : Int) (h1 : h < 9223372036854775808) (hq : ¬ h < q) (hq1 : 1 ≤ q) (hf : ¬ h - q < 64) (w : World)
    (c0 : w.cell? ⟨g, 0, none⟩ = some (.int .i64 h)) (c1 : w.cell? ⟨g, 1, none⟩ = some (.int .u64 s)) :
    Calls Trym.prog 18 #[.pointer (some ⟨g, 0, none⟩), .int .i64 q] w fun e w' => e = .returned (.bool false) ∧ Left2 g h s w w' := by
  have hd : 0 ≤ h - q := by omega
  have hd1 : 64 ≤ h - q := by omega
  go_enter Trym.func18, Trym.ntmps18
  go_wp2
  go_quiet (fail)
  go_wp2
  go_ret
  exact ⟨rfl, left_keep c0 c1 _⟩

set_option maxHeartbeats 400000 in
theorem accept_old (g : Nat) (h s q : Int) (hq : ¬ h < q) (hf : h - q < 64) (s0 : 0 ≤ s) (s1 : s < 18446744073709551616) (hb : s.toNat.testBit (h - q).toNat = true) (w : World)
    (c0 : w.cell? ⟨g, 0, none⟩ = some (.int .i64 h)) (c1 : w.cell? ⟨g, 1, none⟩ = some (.int .u64 s)) :
    Calls Trym.prog 18 #[.pointer (some ⟨g, 0, none⟩), .int .i64 q] w fun e w' => e = .returned (.bool false) ∧ Left2 g h s w w' := by
  have hd : 0 ≤ h - q := by omega
  have hd1 : decide (64 ≤ h - q) = false := decide_eq_false (by omega)
  have hx : IntKind.u64.wrap (2 ^ (h - q).toNat) = 2 ^ (h - q).toNat := by
    have := pow_bd (show (h - q).toNat < 64 by omega)
    rw [IntKind.wrap_u64]; omega
  have hy := (and_bit64 s0 s1 (show (h - q).toNat < 64 by omega)).trans hb
  go_enter Trym.func18, Trym.ntmps18
  go_wp2
  go_quiet (fail)
  go_wp2
  go_ret
  exact ⟨rfl, left_keep c0 c1 _⟩

set_option maxHeartbeats 400000 in
theorem accept_in (g : Nat) (h s q : Int) (hq : ¬ h < q) (hf : h - q < 64) (s0 : 0 ≤ s) (s1 : s < 18446744073709551616) (hb : s.toNat.testBit (h - q).toNat = false) (w : World)
    (c0 : w.cell? ⟨g, 0, none⟩ = some (.int .i64 h)) (c1 : w.cell? ⟨g, 1, none⟩ = some (.int .u64 s)) (f1 : w.frozen? ⟨g, 1, none⟩ = false) :
    Calls Trym.prog 18 #[.pointer (some ⟨g, 0, none⟩), .int .i64 q] w fun e w' => e = .returned (.bool true) ∧ Left2 g h (bits .or .u64 s (2 ^ (h - q).toNat)) w w' := by
  have hd : 0 ≤ h - q := by omega
  have hd1 : decide (64 ≤ h - q) = false := decide_eq_false (by omega)
  have hx : IntKind.u64.wrap (2 ^ (h - q).toNat) = 2 ^ (h - q).toNat := by
    have := pow_bd (show (h - q).toNat < 64 by omega)
    rw [IntKind.wrap_u64]; omega
  have hy := (and_bit64 s0 s1 (show (h - q).toNat < 64 by omega)).trans hb
  go_enter Trym.func18, Trym.ntmps18
  go_wp2
  go_quiet (fail)
  go_wp2
  go_region
  go_wp2
  go_ret
  exact ⟨rfl, left_in c0 c1 _⟩

/-- accept, whatever the window and the seqno (both as their callers keep them). -/
theorem accept_any (g : Nat) (h s q : Int) (h0 : 0 ≤ h) (h1 : h < 9223372036854775808) (s0 : 0 ≤ s) (s1 : s < 18446744073709551616) (hq1 : 1 ≤ q) (hq2 : q < 9223372036854775808) (w : World)
    (c0 : w.cell? ⟨g, 0, none⟩ = some (.int .i64 h)) (c1 : w.cell? ⟨g, 1, none⟩ = some (.int .u64 s)) (f0 : w.frozen? ⟨g, 0, none⟩ = false) (f1 : w.frozen? ⟨g, 1, none⟩ = false) :
    Calls Trym.prog 18 #[.pointer (some ⟨g, 0, none⟩), .int .i64 q] w fun e w' => ∃ ok h' s', e = .returned (.bool ok) ∧ Left2 g h' s' w w' ∧ Spec h s q ok h' s' := by
  by_cases hq : h < q
  · refine (accept_up g h s q h0 hq hq2 w c0 c1 f0 f1).mono ?_
    rintro e w' ⟨rfl, hl⟩
    exact ⟨_, _, _, rfl, hl, spec_up s0 hq⟩
  by_cases hf : h - q < 64
  · cases hb : s.toNat.testBit (h - q).toNat with
    | true =>
      refine (accept_old g h s q hq hf s0 s1 hb w c0 c1).mono ?_
      rintro e w' ⟨rfl, hl⟩
      exact ⟨_, _, _, rfl, hl, spec_old hq hf hb⟩
    | false =>
      refine (accept_in g h s q hq hf s0 s1 hb w c0 c1 f1).mono ?_
      rintro e w' ⟨rfl, hl⟩
      exact ⟨_, _, _, rfl, hl, spec_in s0 s1 hq hf hb⟩
  · refine (accept_far g h s q h1 hq hq1 hf w c0 c1).mono ?_
    rintro e w' ⟨rfl, hl⟩
    exact ⟨_, _, _, rfl, hl, spec_far hq hf⟩

/-- The shim. -/
theorem zzaccept_any (h s q : Int) (h0 : 0 ≤ h) (h1 : h < 9223372036854775808) (s0 : 0 ≤ s) (s1 : s < 18446744073709551616) (hq1 : 1 ≤ q) (hq2 : q < 9223372036854775808) (w : World) :
    Calls Trym.prog 12 #[.int .i64 h, .int .u64 s, .int .i64 q] w fun e w' => ∃ ok h' s', e = .returned (.tuple #[.bool ok, .int .i64 h', .int .u64 s']) ∧ Spec h s q ok h' s' ∧ Below w.heap.size w w' := by
  go_enter Trym.func12, Trym.ntmps12
  go_wp2_with fail
  refine (accept_any w.heap.size h s q h0 h1 s0 s1 hq1 hq2 _ (by simp [go_sem]) (by simp [go_sem]) (by simp [go_sem]) (by simp [go_sem])).mono ?_
  rintro e w1 ⟨ok, h', s', rfl, ⟨c0, c1, hb⟩, hsp⟩
  have hbel : Below w.heap.size w w1 := ((Below.refl _ _).alloc (Nat.le_refl _) _).trans hb
  clear hb
  go_wp2
  go_quiet (fail)
  go_wp2
  go_ret3
  exact ⟨ok, h', s', rfl, hsp, below_drewN hbel _⟩

/-- inWindow. -/
theorem inwin_any (h s t : Int) (s0 : 0 ≤ s) (s1 : s < 18446744073709551616) (ht : h - t < 9223372036854775808) (w : World) :
    Calls Trym.prog 13 #[.int .i64 h, .int .u64 s, .int .i64 t] w fun e w' => e = .returned (.bool (inW h s t)) ∧ w' = w := by
  by_cases c1 : h < t
  · have e1 : inW h s t = false := by unfold inW; rw [decide_eq_false (show ¬ t ≤ h by omega)]; rfl
    rw [e1]
    go_enter Trym.func13, Trym.ntmps13
    go_wp2
    go_ret
    exact ⟨rfl, rfl⟩
  have hd : 0 ≤ h - t := by omega
  by_cases c2 : 64 ≤ h - t
  · have e1 : inW h s t = false := by unfold inW; rw [decide_eq_false (show ¬ h - t < 64 by omega)]; simp
    rw [e1]
    go_enter Trym.func13, Trym.ntmps13
    go_wp2
    go_ret
    exact ⟨rfl, rfl⟩
  · have e1 : inW h s t = s.toNat.testBit (h - t).toNat := by unfold inW; rw [decide_eq_true (show t ≤ h by omega), decide_eq_true (show h - t < 64 by omega)]; rfl
    have e2 := shr_bit64 (b := (h - t).toNat) s0 s1
    rw [e1, ← e2]
    clear e1 e2
    go_enter Trym.func13, Trym.ntmps13
    go_wp2
    go_ret
    exact ⟨rfl, rfl⟩
theorem inwin_to (h s t : Int) (r : Bool) (s0 : 0 ≤ s) (s1 : s < 18446744073709551616) (ht : h - t < 9223372036854775808) (hr : inW h s t = r) (w : World) :
    Calls Trym.prog 13 #[.int .i64 h, .int .u64 s, .int .i64 t] w fun e w' => e = .returned (.bool r) ∧ w' = w := by
  subst hr; exact inwin_any h s t s0 s1 ht w
end Go.Proofs.Qxb6604271aMods
