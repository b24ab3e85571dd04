/-
  Seat b6604072aM: the shim once more, at every number, and shortlexCompare (function 8), by their contracts.
-/
import Derived.Test.Qxb6604072aModsEnc
import Derived.Deep.QuietTactic
import Derived.BigQuiet
namespace Go.Proofs.Qxb6604072aMods
open Go.RowKit

/-- The cells of a slice that holds the lowest k bytes of v. -/
def Bytes (w : World) (ao : Option Addr) (k : Nat) (v : Int) : Prop :=
  k = 0 ∨ ∃ g, ao = some ⟨g, 0, none⟩ ∧ g < w.heap.size ∧ ∀ j, j < k → w.cell? ⟨g, j, none⟩ = some (.int .u8 (v / 256 ^ (k - 1 - j) % 256))

theorem Bytes.later {w w' : World} {ao : Option Addr} {k : Nat} {v : Int} (h : Bytes w ao k v) (hb : Below w.heap.size w w') : Bytes w' ao k v := by
  rcases h with h | ⟨g, rfl, hg, hc⟩
  · exact .inl h
  · exact .inr ⟨g, rfl, Nat.lt_of_lt_of_le hg hb.size, fun j hj => (hb.cell (p := ⟨g, j, none⟩) hg).trans (hc j hj)⟩

theorem zz_any (v : Int) (h0 : 0 ≤ v) (h1 : v < 4294967296) (w : World) :
    Calls Trym.prog 6 #[.int .u32 v] w fun e w' => ∃ (ao : Option Addr) (k cap : Nat), e = .returned (.slice ao k cap) ∧ k ≤ 4 ∧ Bytes w' ao k v ∧ Hid (v / 256 ^ k = 0) ∧ Hid (∀ j, k = j + 1 → v / 256 ^ j ≠ 0) ∧ Below w.heap.size w w' := by
  by_cases h : v = 0
  · subst h
    refine (zz_zero w).mono ?_
    rintro e w' ⟨rfl, hb⟩
    exact ⟨none, 0, 0, rfl, by omega, .inl rfl, rfl, fun j hj => by omega, hb⟩
  · refine (zz_pos v (by omega) h1 w).mono ?_
    rintro e w' ⟨k, g, cap, rfl, hk1, hk4, hg, hg', hc, hlt, hge, hb⟩
    exact ⟨_, k, cap, rfl, hk4, .inr ⟨g, rfl, hg', hc⟩, hlt, (fun j hj => by rw [hj] at hge; exact hge), hb⟩

/-! ### Plain arithmetic -/
theorem short_lt {v u : Int} {k m : Nat} (hu : 0 ≤ u) (hv : v / 256 ^ k = 0) (hm : ∀ j, m = j + 1 → u / 256 ^ j ≠ 0) (hkm : k < m) : v < u := by
  obtain ⟨d, hd⟩ : ∃ d, m = (k + d) + 1 := ⟨m - 1 - k, by omega⟩
  have h2 := hm _ hd
  have hz : v / 256 ^ (k + d) = 0 := by
    rw [Int.pow_add, ← Int.ediv_ediv_of_nonneg (Int.pow_nonneg (by decide)), hv]; simp
  by_cases h : v < u
  · exact h
  · have := Int.ediv_le_ediv (c := 256 ^ (k + d)) (Int.pow_pos (by decide)) (show u ≤ v by omega)
    have hn : 0 ≤ u / 256 ^ (k + d) := Int.ediv_nonneg hu (Int.pow_nonneg (by decide))
    omega

/-- The two numbers' first j of k bytes are the same. -/
def Same (v u : Int) (k j : Nat) : Prop := v / 256 ^ (k - j) = u / 256 ^ (k - j)

theorem same_lt {v u : Int} {k j : Nat} (hj : j < k) (hs : Same v u k j) (hx : v / 256 ^ (k - 1 - j) % 256 < u / 256 ^ (k - 1 - j) % 256) : v < u := by
  have e1 : k - j = (k - 1 - j) + 1 := by omega
  unfold Same at hs
  rw [e1, div_next, div_next] at hs
  by_cases h : v < u
  · exact h
  · have := Int.ediv_le_ediv (c := 256 ^ (k - 1 - j)) (Int.pow_pos (by decide)) (show u ≤ v by omega)
    omega

theorem same_symm {v u : Int} {k j : Nat} (hs : Same v u k j) : Same u v k j := Eq.symm hs

theorem same_next {v u : Int} {k j : Nat} (hj : j < k) (hs : Same v u k j) (hx : v / 256 ^ (k - 1 - j) % 256 = u / 256 ^ (k - 1 - j) % 256) : Same v u k (j + 1) := by
  have e1 : k - j = (k - 1 - j) + 1 := by omega
  have e2 : k - (j + 1) = k - 1 - j := by omega
  unfold Same at hs ⊢
  rw [e1, div_next, div_next] at hs
  rw [e2]
  omega

def cmp (v u : Int) : Int := if v < u then -1 else if u < v then 1 else 0

set_option maxHeartbeats 1000000 in
theorem cmp_same (v u : Int) (g g' k ca cb : Nat) (hk : k ≤ 4) (hv : v / 256 ^ k = 0) (hu : u / 256 ^ k = 0) (w : World)
    (hc : ∀ j, j < k → w.cell? ⟨g, j, none⟩ = some (.int .u8 (v / 256 ^ (k - 1 - j) % 256))) (hd : ∀ j, j < k → w.cell? ⟨g', j, none⟩ = some (.int .u8 (u / 256 ^ (k - 1 - j) % 256))) :
    Calls Trym.prog 8 #[.slice (some ⟨g, 0, none⟩) k ca, .slice (some ⟨g', 0, none⟩) k cb] w fun e w' => e = .returned (.int .i64 (cmp v u)) ∧ ∃ n, w' = w.drewN n := by
  have hs0 : Same v u k 0 := by unfold Same; rw [Nat.sub_zero, hv, hu]
  clear hv hu
  go_enter Trym.func8, Trym.ntmps8
  go_wp2
  go_loopw [5] (fun i wr => ∃ (j n : Nat), j ≤ k ∧ i = .int .i64 j ∧ Same v u k j ∧ wr = w.drewN n) (fun i _ => k - (intOf i).toNat)
  case atStart => exact ⟨0, 0, by omega, rfl, hs0, rfl⟩
  case round =>
    obtain ⟨j, n, hj, rfl, hs, rfl⟩ := hrel
    by_cases hjk : j < k
    · have hcj := hc j hjk
      have hdj := hd j hjk
      obtain ⟨x, hx⟩ : ∃ x, x = v / 256 ^ (k - 1 - j) % 256 := ⟨_, rfl⟩
      obtain ⟨y, hy⟩ : ∃ y, y = u / 256 ^ (k - 1 - j) % 256 := ⟨_, rfl⟩
      rw [← hx] at hcj
      rw [← hy] at hdj
      have HX : Hid (x = v / 256 ^ (k - 1 - j) % 256) := hx
      have HY : Hid (y = u / 256 ^ (k - 1 - j) % 256) := hy
      clear hx hy hc hd
      have hjI : (j : Int) < (k : Int) := by omega
      by_cases hxy : x < y
      · have hvu : v < u := same_lt hjk hs (by rw [← HX.out, ← HY.out]; exact hxy)
        have ec : Hid (cmp v u = -1) := by show cmp v u = -1; unfold cmp; rw [if_pos hvu]
        go_wp2
        go_quiet (fail)
        go_wp2
        go_ret
        exact ⟨by rw [ec.out]; rfl, _, World.drewN_drewN _ _ _⟩
      · by_cases hyx : y < x
        · have hvu : u < v := same_lt hjk (same_symm hs) (by rw [← HX.out, ← HY.out]; exact hyx)
          have ec : Hid (cmp v u = 1) := by show cmp v u = 1; unfold cmp; rw [if_neg (by omega), if_pos hvu]
          go_wp2
          go_quiet (fail)
          go_wp2
          go_quiet (fail)
          go_wp2
          go_ret
          exact ⟨by rw [ec.out]; rfl, _, by rw [World.drewN_drewN, World.drewN_drewN]⟩
        · have hxe : x = y := by omega
          have hs' := same_next hjk hs (by rw [← HX.out, ← HY.out]; exact hxe)
          go_wp2
          go_quiet (fail)
          go_wp2
          go_quiet (fail)
          go_wp2
          go_roundw
          case rel => exact ⟨j + 1, _, by omega, by go_num, hs', rfl⟩
          case measure => simp [intOf]; omega
    · have hjk' : j = k := by omega
      subst hjk'
      have hvu : v = u := by unfold Same at hs; simpa using hs
      subst hvu
      have ec : Hid (cmp v v = 0) := by show cmp v v = 0; unfold cmp; rw [if_neg (by omega), if_neg (by omega)]
      go_wp2
      go_ret
      exact ⟨by rw [ec.out]; rfl, _, rfl⟩

set_option maxHeartbeats 400000 in
theorem cmp_short (ao bo : Option Addr) (k m ca cb : Nat) (h : k < m) (w : World) :
    Calls Trym.prog 8 #[.slice ao k ca, .slice bo m cb] w fun e w' => e = .returned (.int .i64 (-1)) ∧ w' = w := by
  have hI : (k : Int) < (m : Int) := by omega
  go_enter Trym.func8, Trym.ntmps8
  go_wp2
  go_ret
  exact ⟨rfl, rfl⟩

set_option maxHeartbeats 400000 in
theorem cmp_long (ao bo : Option Addr) (k m ca cb : Nat) (h : m < k) (w : World) :
    Calls Trym.prog 8 #[.slice ao k ca, .slice bo m cb] w fun e w' => e = .returned (.int .i64 1) ∧ w' = w := by
  have hI : (m : Int) < (k : Int) := by omega
  have hI' : ¬ (k : Int) < (m : Int) := by omega
  go_enter Trym.func8, Trym.ntmps8
  go_wp2
  go_ret
  exact ⟨rfl, rfl⟩

set_option maxHeartbeats 400000 in
theorem cmp_empty (ao bo : Option Addr) (ca cb : Nat) (w : World) :
    Calls Trym.prog 8 #[.slice ao 0 ca, .slice bo 0 cb] w fun e w' => e = .returned (.int .i64 0) ∧ w' = w := by
  go_enter Trym.func8, Trym.ntmps8
  go_wp2
  refine wp_loop_rounds 1 ?_
  rw [rounds_succ]
  go_wp2
  go_ret
  exact ⟨rfl, rfl⟩

/-- shortlexCompare over the encodings of v and u says how v and u compare. -/
theorem cmp_any (v u : Int) (hv0 : 0 ≤ v) (hu0 : 0 ≤ u) (ao bo : Option Addr) (k m ca cb : Nat) (hk : k ≤ 4) (hm : m ≤ 4) (w : World) (ha : Bytes w ao k v) (hb : Bytes w bo m u)
    (hv : Hid (v / 256 ^ k = 0)) (hu : Hid (u / 256 ^ m = 0)) (hv' : Hid (∀ j, k = j + 1 → v / 256 ^ j ≠ 0)) (hu' : Hid (∀ j, m = j + 1 → u / 256 ^ j ≠ 0)) :
    Calls Trym.prog 8 #[.slice ao k ca, .slice bo m cb] w fun e w' => e = .returned (.int .i64 (cmp v u)) ∧ ∃ n, w' = w.drewN n := by
  by_cases h1 : k < m
  · have hlt := short_lt hu0 hv.out hu'.out h1
    refine (cmp_short ao bo k m ca cb h1 w).mono ?_
    rintro e w' ⟨rfl, rfl⟩
    exact ⟨by unfold cmp; rw [if_pos hlt], 0, rfl⟩
  by_cases h2 : m < k
  · have hlt := short_lt hv0 hu.out hv'.out h2
    refine (cmp_long ao bo k m ca cb h2 w).mono ?_
    rintro e w' ⟨rfl, rfl⟩
    exact ⟨by unfold cmp; rw [if_neg (by omega), if_pos hlt], 0, rfl⟩
  have hkm : m = k := by omega
  subst hkm
  rcases ha with rfl | ⟨g, rfl, hg, hc⟩
  · refine (cmp_empty ao bo ca cb w).mono ?_
    rintro e w' ⟨rfl, rfl⟩
    have e1 := hv.out
    have e2 := hu.out
    simp at e1 e2
    subst e1 e2
    exact ⟨by simp [cmp], 0, rfl⟩
  rcases hb with rfl | ⟨g', rfl, hg', hd⟩
  · refine (cmp_empty _ bo ca cb w).mono ?_
    rintro e w' ⟨rfl, rfl⟩
    have e1 := hv.out
    have e2 := hu.out
    simp at e1 e2
    subst e1 e2
    exact ⟨by simp [cmp], 0, rfl⟩
  exact cmp_same v u g g' m ca cb hm hv.out hu.out w hc hd
end Go.Proofs.Qxb6604072aMods
