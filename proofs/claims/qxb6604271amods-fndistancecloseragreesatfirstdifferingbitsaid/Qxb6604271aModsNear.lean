/-
  Seat b6604271aM: the walk of FnDistanceCloserAgreesAtFirstDifferingBit (function 5).
-/
import Derived.Test.Qxb6604271aModsInv
import Derived.Test.Qxb6604271aModsBits
namespace Go.Proofs.Qxb6604271aMods
open Go.RowKit

theorem len_bts {l : List Int} (h : IsB l) : (Trym.prog.info? 26).map (·.size) = some (bts l).length := by simpa using size_bts h.1

theorem cmp_to (p q : List Int) (c : Int) (hp : IsB p) (hq : IsB q) (h : cmpL p q = c) (w : World) :
    Calls Trym.prog 11 #[.agg (bts p).toArray, .agg (bts q).toArray] w fun e w' => e = .returned (.int .i64 c) ∧ Below w.heap.size w w' := by
  subst h; exact cmp_any p q hp hq w

theorem four_next {w w1 w2 : World} {D : Nat} {a b c d : List Int} {Z cs : Array Value} (h : Four w D a b c d w1) (hb : Below w1.heap.size w1 w2) :
    Four w D a b c d ((w2.alloc (.cells Z 26)).setRow w2.heap.size cs) :=
  (h.later hb).later (below_setRow' ((Below.refl _ _).alloc (Nat.le_refl _) _) (Nat.le_refl _) _)

theorem range_cell {w : World} {g k : Nat} {l : List Int} {z : Int} (h : w.rangeAt g 0 (bts l)) (hz : l[k]? = some z) : w.cell? ⟨g, k, none⟩ = some (.int .u8 z) := by
  have := h k (.int .u8 z) (by simp [bts, hz])
  simpa using this
theorem Four.cellA {w w1 : World} {D : Nat} {a b c d : List Int} (h : Four w D a b c d w1) {k : Nat} {z : Int} (hz : a[k]? = some z) : w1.cell? ⟨w.heap.size, k, none⟩ = some (.int .u8 z) := range_cell h.a hz
theorem Four.cellB {w w1 : World} {D : Nat} {a b c d : List Int} (h : Four w D a b c d w1) {k : Nat} {z : Int} (hz : b[k]? = some z) : w1.cell? ⟨w.heap.size + 1, k, none⟩ = some (.int .u8 z) := range_cell h.b hz
theorem Four.cellC {w w1 : World} {D : Nat} {a b c d : List Int} (h : Four w D a b c d w1) {k : Nat} {z : Int} (hz : c[k]? = some z) : w1.cell? ⟨w.heap.size + 1 + 1, k, none⟩ = some (.int .u8 z) := range_cell h.c hz

/-! ### The mask 'byte(1) << uint(j)' -/
theorem mask_nat {u : Int} {t : Nat} (hu : 0 ≤ u ∧ u < 256) (ht : t ≤ 7) : bits .and .u8 u (2 ^ t % 256) = ((u.toNat &&& 2 ^ t : Nat) : Int) := by
  have h2 : (2 : Nat) ^ t ≤ 2 ^ 7 := Nat.pow_le_pow_right (by omega) ht
  have e : ((2 : Int) ^ t % 256) = ((2 ^ t : Nat) : Int) := by
    have e1 : ((2 : Int) ^ t) = ((2 ^ t : Nat) : Int) := by simp
    rw [e1]
    generalize 2 ^ t = q at h2
    omega
  rw [e, u8_and u _ hu.1 hu.2 (by omega) (by omega), Int.toNat_natCast]
theorem mask_same {u v : Int} {t : Nat} (hu : 0 ≤ u ∧ u < 256) (hv : 0 ≤ v ∧ v < 256) (ht : t ≤ 7) (h : u.toNat.testBit t = v.toNat.testBit t) : (bits .and .u8 u (2 ^ t % 256) != bits .and .u8 v (2 ^ t % 256)) = false := by
  rw [mask_nat hu ht, mask_nat hv ht, (and_bit_eq _ _ t).2 h]; simp
theorem mask_diff {u v : Int} {t : Nat} (hu : 0 ≤ u ∧ u < 256) (hv : 0 ≤ v ∧ v < 256) (ht : t ≤ 7) (h : u.toNat.testBit t ≠ v.toNat.testBit t) : (bits .and .u8 u (2 ^ t % 256) != bits .and .u8 v (2 ^ t % 256)) = true := by
  rw [mask_nat hu ht, mask_nat hv ht]
  have := mt (and_bit_eq u.toNat v.toNat t).1 h
  rw [bne_iff_ne]; omega
theorem mask_eq {u v : Int} {t : Nat} (hu : 0 ≤ u ∧ u < 256) (hv : 0 ≤ v ∧ v < 256) (ht : t ≤ 7) (h : u.toNat.testBit t = v.toNat.testBit t) : (bits .and .u8 u (2 ^ t % 256) == bits .and .u8 v (2 ^ t % 256)) = true := by
  rw [mask_nat hu ht, mask_nat hv ht, (and_bit_eq _ _ t).2 h]; simp
theorem mask_ne {u v : Int} {t : Nat} (hu : 0 ≤ u ∧ u < 256) (hv : 0 ≤ v ∧ v < 256) (ht : t ≤ 7) (h : u.toNat.testBit t ≠ v.toNat.testBit t) : (bits .and .u8 u (2 ^ t % 256) == bits .and .u8 v (2 ^ t % 256)) = false := by
  rw [mask_nat hu ht, mask_nat hv ht]
  have := mt (and_bit_eq u.toNat v.toNat t).1 h
  rw [beq_eq_false_iff_ne]; omega

set_option maxHeartbeats 1000000 in
theorem near_eq (x a b p q : List Int) (hx : IsB x) (ha : IsB a) (hb : IsB b) (hpB : IsB p) (hqB : IsB q) (hp : xorl x a = p) (hq : xorl x b = q) (hc : cmpL p q = 0) (hab : a = b) (w : World) :
    Calls Trym.prog 5 #[.agg (bts x).toArray, .agg (bts a).toArray, .agg (bts b).toArray] w fun e w' => e = .returned (.bool true) ∧ Below w.heap.size w w' := by
  have qab : ∀ w, (Op.equalIn 10000 26 (.agg (bts a).toArray) (.agg (bts b).toArray)).run Trym.prog w = .ok true w := fun w => by rw [eqBytes_run a b ha.1 hb.1 w, decide_eq_true hab]
  clear hab
  have ep : Hid (xorl x a = p) := hp
  have eq : Hid (xorl x b = q) := hq
  have ec : Hid (cmpL p q = 0) := hc
  clear hp hq hc
  go_enter Trym.func5, Trym.ntmps5
  go_wp2_with (first | (refine wpList_load_row rfl 26 (.tmp 3) rfl w.heap.size rfl 26 (bts x).toArray (0, 0) (.array 32 5) (three_0 w _ _ _) Trym.underlying26 rfl (size_bts hx.1) ?_) | (refine wpList_load_row rfl 26 (.tmp 4) rfl (w.heap.size + 1) rfl 26 (bts a).toArray (0, 0) (.array 32 5) (three_1 w _ _ _) Trym.underlying26 rfl (size_bts ha.1) ?_))
  refine (dist_to x a p hx ha ep.out _).mono ?_
  rintro e w1 ⟨rfl, hb1⟩
  go_wp2_with (first | (refine wpList_store_row rfl 26 (.tmp 7) (.tmp 15) rfl w1.heap.size (bts p).toArray rfl rfl 26 _ (heap_alloc_new _ _) (size_bts hpB.1) (by rw [bts_size hpB.1]; rfl) (one_bts _) ?_; generalize hW4 : World.setRow _ _ _ = W4; have hS4 : Four w w1.heap.size x a b p W4 := (by rw [← hW4]; exact four_start hb1); clear hW4 hb1) | (refine wpList_load_mid rfl 26 (.tmp 3) rfl w.heap.size 0 rfl (bts x) (.array 32 5) hS4.a Trym.underlying26 rfl (len_bts hx) ?_) | (refine wpList_load_mid rfl 26 (.tmp 5) rfl (w.heap.size + 1 + 1) 0 rfl (bts b) (.array 32 5) hS4.c Trym.underlying26 rfl (len_bts hb) ?_))
  refine (dist_to x b q hx hb eq.out _).mono ?_
  rintro e w2 ⟨rfl, hb2⟩
  go_wp2_with (first | (refine wpList_store_row rfl 26 (.tmp 8) (.tmp 18) rfl w2.heap.size (bts q).toArray rfl rfl 26 _ (heap_alloc_new _ _) (size_bts hqB.1) (by rw [bts_size hqB.1]; rfl) (one_bts _) ?_; generalize hW5 : World.setRow _ _ _ = W5; have hS5 : Four w w1.heap.size x a b p W5 := (by rw [← hW5]; exact four_next hS4 hb2); have hR5 : W5.rangeAt w2.heap.size 0 (bts q) := (by rw [← hW5]; exact rangeAt_row (setRow_heap _ _ _ _ _ _ (heap_alloc_new _ _))); clear hW5 hb2 hS4) | (refine wpList_load_mid rfl 26 (.tmp 7) rfl w1.heap.size 0 rfl (bts p) (.array 32 5) hS5.d Trym.underlying26 rfl (len_bts hpB) ?_) | (refine wpList_load_mid rfl 26 (.tmp 8) rfl w2.heap.size 0 rfl (bts q) (.array 32 5) hR5 Trym.underlying26 rfl (len_bts hqB) ?_))
  refine (cmp_to p q 0 hpB hqB ec.out _).mono ?_
  rintro e w3 ⟨rfl, hb3⟩
  have hS6 : Four w w1.heap.size x a b p w3 := hS5.later hb3
  clear hb3 hS5 hR5
  go_wp2_with (first | (refine wpList_load_mid rfl 26 (.tmp 4) rfl (w.heap.size + 1) 0 rfl (bts a) (.array 32 5) hS6.b Trym.underlying26 rfl (len_bts ha) ?_) | (refine wpList_load_mid rfl 26 (.tmp 5) rfl (w.heap.size + 1 + 1) 0 rfl (bts b) (.array 32 5) hS6.c Trym.underlying26 rfl (len_bts hb) ?_))
  go_ret
  exact ⟨rfl, hS6.bel⟩

set_option maxHeartbeats 1000000 in
theorem near_ne (x a b p q : List Int) (c : Int) (hx : IsB x) (ha : IsB a) (hb : IsB b) (hpB : IsB p) (hqB : IsB q) (hp : xorl x a = p) (hq : xorl x b = q) (hc : cmpL p q = c) (hab : a ≠ b)
    (i0 : Nat) (hi0 : i0 < 32) (u v y : Int) (hu : a[i0]? = some u) (hv : b[i0]? = some v) (hy : x[i0]? = some y) (huv : u ≠ v) (hu2 : 0 ≤ u ∧ u < 256) (hv2 : 0 ≤ v ∧ v < 256) (hy2 : 0 ≤ y ∧ y < 256) (hsame : ∀ k, k < i0 → a[k]? = b[k]?) (j0 : Nat) (hj0 : j0 < 8)
    (hdiff : Hid (u.toNat.testBit j0 ≠ v.toNat.testBit j0)) (hag : Hid (∀ i, j0 < i → u.toNat.testBit i = v.toNat.testBit i)) (hcl : Hid (y.toNat.testBit j0 = u.toNat.testBit j0 → c = -1)) (hcr : Hid (y.toNat.testBit j0 ≠ u.toNat.testBit j0 → c = 1)) (w : World) :
    Calls Trym.prog 5 #[.agg (bts x).toArray, .agg (bts a).toArray, .agg (bts b).toArray] w fun e w' => e = .returned (.bool true) ∧ Below w.heap.size w w' := by
  have qab : ∀ w, (Op.equalIn 10000 26 (.agg (bts a).toArray) (.agg (bts b).toArray)).run Trym.prog w = .ok false w := fun w => by rw [eqBytes_run a b ha.1 hb.1 w, decide_eq_false hab]
  clear hab
  have ep : Hid (xorl x a = p) := hp
  have eq : Hid (xorl x b = q) := hq
  have ec : Hid (cmpL p q = c) := hc
  clear hp hq hc
  go_enter Trym.func5, Trym.ntmps5
  go_wp2_with (first | (refine wpList_load_row rfl 26 (.tmp 3) rfl w.heap.size rfl 26 (bts x).toArray (0, 0) (.array 32 5) (three_0 w _ _ _) Trym.underlying26 rfl (size_bts hx.1) ?_) | (refine wpList_load_row rfl 26 (.tmp 4) rfl (w.heap.size + 1) rfl 26 (bts a).toArray (0, 0) (.array 32 5) (three_1 w _ _ _) Trym.underlying26 rfl (size_bts ha.1) ?_))
  refine (dist_to x a p hx ha ep.out _).mono ?_
  rintro e w1 ⟨rfl, hb1⟩
  go_wp2_with (first | (refine wpList_store_row rfl 26 (.tmp 7) (.tmp 15) rfl w1.heap.size (bts p).toArray rfl rfl 26 _ (heap_alloc_new _ _) (size_bts hpB.1) (by rw [bts_size hpB.1]; rfl) (one_bts _) ?_; generalize hW4 : World.setRow _ _ _ = W4; have hS4 : Four w w1.heap.size x a b p W4 := (by rw [← hW4]; exact four_start hb1); clear hW4 hb1) | (refine wpList_load_mid rfl 26 (.tmp 3) rfl w.heap.size 0 rfl (bts x) (.array 32 5) hS4.a Trym.underlying26 rfl (len_bts hx) ?_) | (refine wpList_load_mid rfl 26 (.tmp 5) rfl (w.heap.size + 1 + 1) 0 rfl (bts b) (.array 32 5) hS4.c Trym.underlying26 rfl (len_bts hb) ?_))
  refine (dist_to x b q hx hb eq.out _).mono ?_
  rintro e w2 ⟨rfl, hb2⟩
  go_wp2_with (first | (refine wpList_store_row rfl 26 (.tmp 8) (.tmp 18) rfl w2.heap.size (bts q).toArray rfl rfl 26 _ (heap_alloc_new _ _) (size_bts hqB.1) (by rw [bts_size hqB.1]; rfl) (one_bts _) ?_; generalize hW5 : World.setRow _ _ _ = W5; have hS5 : Four w w1.heap.size x a b p W5 := (by rw [← hW5]; exact four_next hS4 hb2); have hR5 : W5.rangeAt w2.heap.size 0 (bts q) := (by rw [← hW5]; exact rangeAt_row (setRow_heap _ _ _ _ _ _ (heap_alloc_new _ _))); clear hW5 hb2 hS4) | (refine wpList_load_mid rfl 26 (.tmp 7) rfl w1.heap.size 0 rfl (bts p) (.array 32 5) hS5.d Trym.underlying26 rfl (len_bts hpB) ?_) | (refine wpList_load_mid rfl 26 (.tmp 8) rfl w2.heap.size 0 rfl (bts q) (.array 32 5) hR5 Trym.underlying26 rfl (len_bts hqB) ?_))
  refine (cmp_to p q c hpB hqB ec.out _).mono ?_
  rintro e w3 ⟨rfl, hb3⟩
  have hS6 : Four w w1.heap.size x a b p w3 := hS5.later hb3
  clear hb3 hS5 hR5
  go_wp2_with (first | (refine wpList_load_mid rfl 26 (.tmp 4) rfl (w.heap.size + 1) 0 rfl (bts a) (.array 32 5) hS6.b Trym.underlying26 rfl (len_bts ha) ?_) | (refine wpList_load_mid rfl 26 (.tmp 5) rfl (w.heap.size + 1 + 1) 0 rfl (bts b) (.array 32 5) hS6.c Trym.underlying26 rfl (len_bts hb) ?_))
  have HU : Hid (a[i0]? = some u) := hu
  have HV : Hid (b[i0]? = some v) := hv
  have HY : Hid (x[i0]? = some y) := hy
  have HS : Hid (∀ k, k < i0 → a[k]? = b[k]?) := hsame
  clear hu hv hy hsame
  go_loopw [10] (fun i wr => ∃ (k n : Nat), k ≤ i0 ∧ i = .int .i64 k ∧ wr = w3.drewN n) (fun i _ => 32 - (intOf i).toNat)
  case atStart => exact ⟨0, 0, by omega, rfl, rfl⟩
  case round =>
    obtain ⟨k, n, hk, rfl, rfl⟩ := hrel
    have hkI : (k : Int) < 32 := by omega
    by_cases hki : k < i0
    · obtain ⟨z, hz, hz0, hz1⟩ := ha.get (k := k) (by omega)
      have hca := hS6.cellB hz
      have hcb := hS6.cellC ((HS.out k hki).symm.trans hz)
      clear hz
      go_wp2
      go_quiet (fail)
      go_wp2
      go_roundw
      case rel => exact ⟨k + 1, _, by omega, by go_num, rfl⟩
      case measure => simp [intOf]; omega
    · have hke : k = i0 := by omega
      subst hke
      have hca := hS6.cellB HU.out
      have hcb := hS6.cellC HV.out
      have hcx := hS6.cellA HY.out
      have hne : (u != v) = true := by simpa using huv
      go_wp2
      go_quiet (fail)
      go_wp2
      go_loopw [11] (fun j wr => ∃ (t m : Nat), j0 ≤ t ∧ t ≤ 7 ∧ j = .int .i64 t ∧ wr = w3.drewN m) (fun j _ => (intOf j).toNat)
      case atStart => exact ⟨7, _, by omega, by omega, rfl, World.drewN_drewN _ _ _⟩
      case round =>
        obtain ⟨t, m, ht, ht7, rfl, rfl⟩ := hrel
        have htI : (t : Int) ≤ 7 := by omega
        by_cases htj : j0 < t
        · have hm : (bits .and .u8 u (2 ^ t % 256) != bits .and .u8 v (2 ^ t % 256)) = false := mask_same hu2 hv2 ht7 (hag.out t htj)
          go_wp2
          go_quiet (fail)
          go_wp2
          go_roundw
          case rel => exact ⟨t - 1, _, by omega, by omega, by go_num, rfl⟩
          case measure => simp [intOf]; omega
        · have hte : t = j0 := by omega
          subst hte
          have hm : (bits .and .u8 u (2 ^ t % 256) != bits .and .u8 v (2 ^ t % 256)) = true := mask_diff hu2 hv2 ht7 hdiff.out
          by_cases hyu : y.toNat.testBit t = u.toNat.testBit t
          · have hm2 : (bits .and .u8 y (2 ^ t % 256) == bits .and .u8 u (2 ^ t % 256)) = true := mask_eq hy2 hu2 ht7 hyu
            have hc1 : (c == -1) = true := by simpa using hcl.out hyu
            clear hyu
            go_wp2
            go_quiet (fail)
            go_wp2
            go_quiet (fail)
            go_wp2
            go_ret
            exact ⟨rfl, below_drewN hS6.bel _⟩
          · have hm2 : (bits .and .u8 y (2 ^ t % 256) == bits .and .u8 u (2 ^ t % 256)) = false := mask_ne hy2 hu2 ht7 hyu
            have hc1 : (c == 1) = true := by simpa using hcr.out hyu
            clear hyu
            go_wp2
            go_quiet (fail)
            go_wp2
            go_quiet (fail)
            go_wp2
            go_ret
            exact ⟨rfl, below_drewN hS6.bel _⟩

/-- FnDistanceCloserAgreesAtFirstDifferingBit, whatever the three ids. -/
theorem near_any (x a b : List Int) (hx : IsB x) (ha : IsB a) (hb : IsB b) (w : World) :
    Calls Trym.prog 5 #[.agg (bts x).toArray, .agg (bts a).toArray, .agg (bts b).toArray] w fun e w' => e = .returned (.bool true) ∧ Below w.heap.size w w' := by
  by_cases hab : a = b
  · exact near_eq x a b _ _ hx ha hb (hx.xorl ha) (hx.xorl hb) rfl rfl (by rw [hab]; exact cmpL_self _) hab w
  · obtain ⟨i0, u, v, hu, hv, huv, hsame⟩ := first_diff (ha.1.trans hb.1.symm) hab
    have hi0 : i0 < 32 := by
      have := (List.getElem?_eq_some_iff.1 hu).1
      rw [ha.1] at this; exact this
    obtain ⟨y, hy, hy0, hy1⟩ := hx.get hi0
    have hu2 : 0 ≤ u ∧ u < 256 := by obtain ⟨z, hz, h1, h2⟩ := ha.get hi0; rw [hu] at hz; cases hz; exact ⟨h1, h2⟩
    have hv2 : 0 ≤ v ∧ v < 256 := by obtain ⟨z, hz, h1, h2⟩ := hb.get hi0; rw [hv] at hz; cases hz; exact ⟨h1, h2⟩
    obtain ⟨j0, hj0, hd, hag⟩ := top_bit8 (u := u.toNat) (v := v.toNat) (by omega) (by omega) (by omega)
    have hn := near_iff (y := y.toNat) hd hag
    have hc : cmpL (xorl x a) (xorl x b) = if xorb y u < xorb y v then -1 else 1 := by
      refine cmpL_at i0 (xorl_get hy hu) (xorl_get hy hv) (fun j hj => ?_) ?_
      · simp only [xorl, List.getElem?_zipWith, hsame j hj]
      · intro e
        unfold xorb at e
        by_cases h : y.toNat.testBit j0 = u.toNat.testBit j0
        · have := hn.1 h; omega
        · have := hn.2 h; omega
    refine near_ne x a b _ _ _ hx ha hb (hx.xorl ha) (hx.xorl hb) rfl rfl rfl hab i0 hi0 u v y hu hv hy huv hu2 hv2 ⟨hy0, hy1⟩ hsame j0 hj0 hd hag (fun h => ?_) (fun h => ?_) w
    · rw [hc, if_pos (by have := hn.1 h; unfold xorb; omega)]
    · rw [hc, if_neg (by have := hn.2 h; unfold xorb; omega)]
end Go.Proofs.Qxb6604271aMods
