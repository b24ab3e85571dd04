/-
  Seat b6604271aM: nearkey.distance (function 17) and its shim ZZDistance (10): on two arrays of 32 bytes each gives the bytes' exclusive or, in new memory alone.
-/
import Derived.Test.Qxb6604271aModsRows
import Derived.WalkKit
import Derived.WalkSpells
import Derived.WalkLawsBesides
import Derived.Deep.MidRow
namespace Go.Proofs.Qxb6604271aMods
open Go.RowKit

/-- The cells of an array of bytes. -/
def bts (l : List Int) : List Value := l.map (Value.int .u8)
/-- Of two bytes, exclusive or. -/
def xorb (x y : Int) : Int := ((x.toNat ^^^ y.toNat : Nat) : Int)
def xorl (a b : List Int) : List Int := List.zipWith xorb a b
/-- What d holds behind k rounds. -/
def half (a b : List Int) (k : Nat) : List Int := (xorl a b).take k ++ List.replicate (32 - k) 0
/-- 32 bytes. -/
def IsB (l : List Int) : Prop := l.length = 32 ∧ ∀ x ∈ l, 0 ≤ x ∧ x < 256

theorem Trym.size26 : (Trym.prog.info? 26).map (·.size) = some 32 := by kernel_rfl

theorem bts_size {l : List Int} (h : l.length = 32) : (bts l).toArray.size = 32 := by simp [bts, h]
theorem size_bts {l : List Int} (h : l.length = 32) : (Trym.prog.info? 26).map (·.size) = some (bts l).toArray.size := by rw [bts_size h]; exact Trym.size26
theorem one_bts (l : List Int) : (bts l).toArray.all (·.oneCell') = true := by
  refine all_oneCell_toArray ?_
  intro v hv
  obtain ⟨z, _, rfl⟩ := List.mem_map.1 hv
  rfl
theorem bts_get (l : List Int) (k : Nat) (x : Int) (h : l[k]? = some x) : (bts l).toArray[k]? = some (.int .u8 x) := by simp [bts, h]

theorem xorb_lt {x y : Int} (hx0 : 0 ≤ x) (hx : x < 256) (hy0 : 0 ≤ y) (hy : y < 256) : 0 ≤ xorb x y ∧ xorb x y < 256 := by
  unfold xorb
  have := Nat.xor_lt_two_pow (n := 8) (x := x.toNat) (y := y.toNat) (by omega) (by omega)
  omega
theorem xorl_len {a b : List Int} (ha : IsB a) (hb : IsB b) : (xorl a b).length = 32 := by simp [xorl, ha.1, hb.1]
theorem xorl_get {a b : List Int} {k : Nat} {x y : Int} (hx : a[k]? = some x) (hy : b[k]? = some y) : (xorl a b)[k]? = some (xorb x y) := by
  simp [xorl, List.getElem?_zipWith, hx, hy]
theorem IsB.get {l : List Int} (h : IsB l) {k : Nat} (hk : k < 32) : ∃ x, l[k]? = some x ∧ 0 ≤ x ∧ x < 256 := by
  have hk' : k < l.length := by rw [h.1]; exact hk
  exact ⟨l[k], List.getElem?_eq_getElem hk', h.2 _ (List.getElem_mem hk')⟩
theorem IsB.xorl {a b : List Int} (ha : IsB a) (hb : IsB b) : IsB (xorl a b) := by
  refine ⟨xorl_len ha hb, fun x hx => ?_⟩
  obtain ⟨k, hk, rfl⟩ := List.getElem_of_mem hx
  rw [xorl_len ha hb] at hk
  obtain ⟨u, hu, hu0, hu1⟩ := ha.get hk
  obtain ⟨v, hv, hv0, hv1⟩ := hb.get hk
  have := xorl_get hu hv
  rw [List.getElem?_eq_some_iff] at this
  obtain ⟨_, e⟩ := this
  rw [e]
  exact xorb_lt hu0 hu1 hv0 hv1

theorem half_len {a b : List Int} (ha : IsB a) (hb : IsB b) {k : Nat} (hk : k ≤ 32) : (half a b k).length = 32 := by
  simp [half, xorl_len ha hb]; omega
theorem half_zero (a b : List Int) : half a b 0 = List.replicate 32 0 := rfl
theorem half_full {a b : List Int} (ha : IsB a) (hb : IsB b) : half a b 32 = xorl a b := by
  simp [half, List.take_of_length_le (Nat.le_of_eq (xorl_len ha hb))]
theorem half_step {a b : List Int} (ha : IsB a) (hb : IsB b) {k : Nat} (hk : k < 32) {x y : Int} (hx : a[k]? = some x) (hy : b[k]? = some y) :
    (bts (half a b k)).toArray.setIfInBounds k (.int .u8 (xorb x y)) = (bts (half a b (k + 1))).toArray := by
  have hl := xorl_len ha hb
  have hg := xorl_get hx hy
  have e : (half a b k).set k (xorb x y) = half a b (k + 1) := by
    apply List.ext_getElem?
    intro i
    rw [List.getElem?_set]
    unfold half
    by_cases hik : k = i
    · subst hik
      rw [if_pos rfl, List.getElem?_append_left (by simp; omega), List.getElem?_take_of_lt (by omega), hg]
      simp; omega
    · rw [if_neg hik]
      by_cases h1 : i < k
      · rw [List.getElem?_append_left (by simp; omega), List.getElem?_append_left (by simp; omega), List.getElem?_take_of_lt h1, List.getElem?_take_of_lt (by omega)]
      · rw [List.getElem?_append_right (by simp; omega), List.getElem?_append_right (by simp; omega), List.getElem?_replicate, List.getElem?_replicate]
        simp only [List.length_take, hl]
        by_cases h2 : i < 32
        · rw [if_pos (by omega), if_pos (by omega)]
        · rw [if_neg (by omega), if_neg (by omega)]
  rw [← e]
  simp [bts, List.map_set]

/-- The world in the round: the two arguments' boxes, the result's variable, d. -/
def Rel (a b : List Int) (w wr : World) (k : Nat) : Prop :=
  wr.heap[w.heap.size]? = some (.cells (bts a).toArray 26 (0, 0)) ∧ wr.heap[w.heap.size + 1]? = some (.cells (bts b).toArray 26 (0, 0)) ∧
  (∃ z : List Int, z.length = 32 ∧ wr.heap[w.heap.size + 1 + 1]? = some (.cells (bts z).toArray 26 (0, 0))) ∧
  wr.heap[w.heap.size + 1 + 1 + 1]? = some (.cells (bts (half a b k)).toArray 26 (0, 0)) ∧ Below w.heap.size w wr

theorem Rel.cells {a b : List Int} {w wr : World} {k : Nat} (h : Rel a b w wr k) (ha : IsB a) (hb : IsB b) (hk : k < 32) :
    ∃ x y u : Int, 0 ≤ x ∧ x < 256 ∧ 0 ≤ y ∧ y < 256 ∧ wr.cell? ⟨w.heap.size, k, none⟩ = some (.int .u8 x) ∧ wr.cell? ⟨w.heap.size + 1, k, none⟩ = some (.int .u8 y) ∧
      wr.cell? ⟨w.heap.size + 1 + 1 + 1, k, none⟩ = some (.int .u8 u) ∧ wr.frozen? ⟨w.heap.size + 1 + 1 + 1, k, none⟩ = false ∧ Hid (a[k]? = some x) ∧ Hid (b[k]? = some y) := by
  obtain ⟨h1, h2, h3, h4, h5⟩ := h
  obtain ⟨x, hx, hx0, hx1⟩ := ha.get hk
  obtain ⟨y, hy, hy0, hy1⟩ := hb.get hk
  have hk' : k < (half a b k).length := by rw [half_len ha hb (by omega)]; exact hk
  refine ⟨x, y, (half a b k)[k], hx0, hx1, hy0, hy1, ?_, ?_, ?_, frozen_of_row _ _ _ _ _ h4, hx, hy⟩
  · rw [cell_of_row _ _ _ _ _ _ h1]; exact bts_get _ _ _ hx
  · rw [cell_of_row _ _ _ _ _ _ h2]; exact bts_get _ _ _ hy
  · rw [cell_of_row _ _ _ _ _ _ h4]; exact bts_get _ _ _ (List.getElem?_eq_getElem hk')

theorem Rel.step {a b : List Int} {w wr : World} {k : Nat} (h : Rel a b w wr k) (ha : IsB a) (hb : IsB b) (hk : k < 32) {x y : Int} (hx0 : 0 ≤ x) (hx1 : x < 256) (hy0 : 0 ≤ y) (hy1 : y < 256) (hx : Hid (a[k]? = some x)) (hy : Hid (b[k]? = some y)) :
    Rel a b w (wr.setCell ⟨w.heap.size + 1 + 1 + 1, k, none⟩ (.int .u8 (bits .xor .u8 x y))).drew (k + 1) := by
  obtain ⟨h1, h2, ⟨z, hz, h3⟩, h4, h5⟩ := h
  have e : bits .xor .u8 x y = xorb x y := u8_xor x y hx0 hx1 hy0 hy1
  rw [e]
  refine ⟨?_, ?_, ⟨z, hz, ?_⟩, ?_, (h5.setCell (by simp; omega) _).drew⟩
  · rw [heap_drew, heap_setCell_other _ _ _ _ (by simp; omega)]; exact h1
  · rw [heap_drew, heap_setCell_other _ _ _ _ (by simp)]; exact h2
  · rw [heap_drew, heap_setCell_other _ _ _ _ (by simp)]; exact h3
  · rw [heap_drew, heap_setCell_same _ _ _ _ _ _ h4, half_step ha hb hk hx.out hy.out]

theorem zeros_bts : (bts (List.replicate 32 0)).toArray = #[.int .u8 0, .int .u8 0, .int .u8 0, .int .u8 0, .int .u8 0, .int .u8 0, .int .u8 0, .int .u8 0, .int .u8 0, .int .u8 0, .int .u8 0, .int .u8 0, .int .u8 0, .int .u8 0, .int .u8 0, .int .u8 0, .int .u8 0, .int .u8 0, .int .u8 0, .int .u8 0, .int .u8 0, .int .u8 0, .int .u8 0, .int .u8 0, .int .u8 0, .int .u8 0, .int .u8 0, .int .u8 0, .int .u8 0, .int .u8 0, .int .u8 0, .int .u8 0] := rfl

theorem Rel.start (a b : List Int) (w : World) (Z : Array Value) (hZ : (bts (List.replicate 32 0)).toArray = Z) :
    Rel a b w ((((w.alloc (.cells (bts a).toArray 26)).alloc (.cells (bts b).toArray 26)).alloc (.cells Z 26)).alloc (.cells Z 26)) 0 := by
  subst hZ
  refine ⟨?_, ?_, ⟨List.replicate 32 0, by simp, ?_⟩, ?_, ((((Below.refl _ _).alloc (by simp) _).alloc (by simp) _).alloc (by simp; omega) _).alloc (by simp; omega) _⟩
  · rw [Below.heap_alloc _ _ _ (by simp; omega), Below.heap_alloc _ _ _ (by simp; omega), Below.heap_alloc _ _ _ (by simp)]; exact heap_alloc_new _ _
  · rw [Below.heap_alloc _ _ _ (by simp), Below.heap_alloc _ _ _ (by simp)]
    have := heap_alloc_new (w.alloc (.cells (bts a).toArray 26)) (.cells (bts b).toArray 26)
    simpa using this
  · rw [Below.heap_alloc _ _ _ (by simp)]
    have := heap_alloc_new ((w.alloc (.cells (bts a).toArray 26)).alloc (.cells (bts b).toArray 26)) (.cells (bts (List.replicate 32 0)).toArray 26)
    simpa using this
  · have := heap_alloc_new (((w.alloc (.cells (bts a).toArray 26)).alloc (.cells (bts b).toArray 26)).alloc (.cells (bts (List.replicate 32 0)).toArray 26)) (.cells (bts (List.replicate 32 0)).toArray 26)
    rw [half_zero]
    simpa using this

theorem below_setRow' {B : Nat} {w w' : World} (h : Below B w w') {g : Nat} (hg : B ≤ g) (cs : Array Value) : Below B w (w'.setRow g cs) :=
  h.trans ⟨rfl, rfl, rfl, by simp, fun k hk => setRow_other _ _ _ _ (by omega)⟩

set_option maxHeartbeats 1000000 in
theorem dist_any (a b : List Int) (ha : IsB a) (hb : IsB b) (w : World) :
    Calls Trym.prog 17 #[.agg (bts a).toArray, .agg (bts b).toArray] w fun e w' => e = .returned (.agg (bts (xorl a b)).toArray) ∧ Below w.heap.size w w' := by
  go_enter Trym.func17, Trym.ntmps17
  go_wp2
  go_loopw [7] (fun i wr => ∃ k : Nat, k ≤ 32 ∧ i = .int .i64 k ∧ Rel a b w wr k) (fun i _ => 32 - (intOf i).toNat)
  case atStart => exact ⟨0, by omega, rfl, Rel.start a b w _ zeros_bts⟩
  case round =>
    obtain ⟨k, hk, rfl, hr⟩ := hrel
    by_cases hk2 : k < 32
    · obtain ⟨x, y, u, hx0, hx1, hy0, hy1, hcx, hcy, hcu, hfu, Hx, Hy⟩ := hr.cells ha hb hk2
      have hkI : (k : Int) < 32 := by omega
      have R := hr.step ha hb hk2 hx0 hx1 hy0 hy1 Hx Hy
      go_wp2
      go_region
      go_wp2
      go_roundw
      case rel => exact ⟨k + 1, by omega, by go_num, R⟩
      case measure => simp [intOf]; omega
    · have hke : k = 32 := by omega
      subst hke
      obtain ⟨h1, h2, ⟨z, hz, h3⟩, h4, h5⟩ := hr
      rw [half_full ha hb] at h4
      have hl := xorl_len ha hb
      have hx26 := size_bts hl
      have hzz := (bts_size hz).trans (bts_size hl).symm
      have hone := one_bts (xorl a b)
      have h6 := setRow_heap wr (w.heap.size + 1 + 1) _ (bts (xorl a b)).toArray 26 (0, 0) h3
      have hbel := below_setRow' h5 (g := w.heap.size + 1 + 1) (by omega) (bts (xorl a b)).toArray
      have e1 : Hid (wr.heap[w.heap.size + 1 + 1]? = some (.cells (bts z).toArray 26 (0, 0))) := h3
      have e2 : Hid (wr.heap[w.heap.size + 1 + 1 + 1]? = some (.cells (bts (xorl a b)).toArray 26 (0, 0))) := h4
      have e3 : Hid ((wr.setRow (w.heap.size + 1 + 1) (bts (xorl a b)).toArray).heap[w.heap.size + 1 + 1]? = some (.cells (bts (xorl a b)).toArray 26 (0, 0))) := h6
      have e4 : Hid ((bts z).toArray.size = (bts (xorl a b)).toArray.size) := hzz
      have e5 : Hid ((Trym.prog.info? 26).map (·.size) = some (bts (xorl a b)).toArray.size) := hx26
      have e6 : Hid ((bts (xorl a b)).toArray.all (·.oneCell') = true) := hone
      clear h3 h4 h6 hzz hx26 hone h1 h2 hl
      go_wp2_with (first | (refine wpList_load_row rfl 26 (.tmp 5) rfl (w.heap.size + 1 + 1 + 1) rfl 26 (bts (xorl a b)).toArray (0, 0) (.array 32 5) e2.out Trym.underlying26 rfl e5.out ?_) | (refine wpList_store_row rfl 26 (.tmp 4) (.tmp 20) rfl (w.heap.size + 1 + 1) (bts (xorl a b)).toArray rfl rfl 26 _ e1.out e5.out e4.out e6.out ?_))
      exact bodyPost_ret (v := .agg (bts (xorl a b)).toArray) (results_cell_row Trym.results17 _ _ (w.heap.size + 1 + 1) 26 _ (0, 0) (.array 32 5) rfl e3.out Trym.underlying26 rfl e5.out) rfl ⟨rfl, hbel⟩

/-! ### Three blocks laid in a row -/
theorem three_0 (w : World) (A B C : Obj) : (((w.alloc A).alloc B).alloc C).heap[w.heap.size]? = some A := by
  rw [Below.heap_alloc _ _ _ (by simp; omega), Below.heap_alloc _ _ _ (by simp)]; exact heap_alloc_new _ _
theorem three_1 (w : World) (A B C : Obj) : (((w.alloc A).alloc B).alloc C).heap[w.heap.size + 1]? = some B := by
  rw [Below.heap_alloc _ _ _ (by simp)]
  simpa using heap_alloc_new (w.alloc A) B
theorem three_2 (w : World) (A B C : Obj) : (((w.alloc A).alloc B).alloc C).heap[w.heap.size + 1 + 1]? = some C := by
  simpa using heap_alloc_new ((w.alloc A).alloc B) C
theorem three_size (w : World) (A B C : Obj) : (((w.alloc A).alloc B).alloc C).heap.size = w.heap.size + 3 := by simp
theorem three_below (w : World) (A B C : Obj) : Below w.heap.size w (((w.alloc A).alloc B).alloc C) :=
  (((Below.refl _ _).alloc (by simp) _).alloc (by simp) _).alloc (by simp; omega) _

set_option maxHeartbeats 1000000 in
theorem zzdist_any (a b : List Int) (ha : IsB a) (hb : IsB b) (w : World) :
    Calls Trym.prog 10 #[.agg (bts a).toArray, .agg (bts b).toArray] w fun e w' => e = .returned (.agg (bts (xorl a b)).toArray) ∧ Below w.heap.size w w' := by
  go_enter Trym.func10, Trym.ntmps10
  go_wp2_with (first | (refine wpList_load_row rfl 26 (.tmp 2) rfl w.heap.size rfl 26 (bts a).toArray (0, 0) (.array 32 5) (three_0 w _ _ _) Trym.underlying26 rfl (size_bts ha.1) ?_) | (refine wpList_load_row rfl 26 (.tmp 3) rfl (w.heap.size + 1) rfl 26 (bts b).toArray (0, 0) (.array 32 5) (three_1 w _ _ _) Trym.underlying26 rfl (size_bts hb.1) ?_))
  refine (dist_any a b ha hb _).mono ?_
  rintro e w1 ⟨rfl, hb1⟩
  have h2 : Hid (w1.heap[w.heap.size + 1 + 1]? = some (.cells (bts (List.replicate 32 0)).toArray 26 (0, 0))) := by
    refine (hb1.block _ (by rw [three_size]; omega)).trans ?_
    rw [zeros_bts]
    exact three_2 w _ _ _
  have hb2 : Below w.heap.size w w1 := (three_below w _ _ _).trans (hb1.mono (by rw [three_size]; omega))
  clear hb1
  have hl := xorl_len ha hb
  have hx26 : Hid ((Trym.prog.info? 26).map (·.size) = some (bts (xorl a b)).toArray.size) := size_bts hl
  have hzz : Hid ((bts (List.replicate 32 0)).toArray.size = (bts (xorl a b)).toArray.size) := (bts_size (by simp)).trans (bts_size hl).symm
  have h6 : Hid ((w1.setRow (w.heap.size + 1 + 1) (bts (xorl a b)).toArray).heap[w.heap.size + 1 + 1]? = some (.cells (bts (xorl a b)).toArray 26 (0, 0))) := setRow_heap w1 (w.heap.size + 1 + 1) _ (bts (xorl a b)).toArray 26 (0, 0) h2.out
  have hbel := below_setRow' hb2 (g := w.heap.size + 1 + 1) (by omega) (bts (xorl a b)).toArray
  clear hl
  go_wp2_with (refine wpList_store_row rfl 26 (.tmp 4) (.tmp 7) rfl (w.heap.size + 1 + 1) (bts (xorl a b)).toArray rfl rfl 26 _ h2.out hx26.out hzz.out (one_bts _) ?_)
  exact bodyPost_ret (v := .agg (bts (xorl a b)).toArray) (results_cell_row Trym.results10 _ _ (w.heap.size + 1 + 1) 26 _ (0, 0) (.array 32 5) rfl h6.out Trym.underlying26 rfl hx26.out) rfl ⟨rfl, hbel⟩
end Go.Proofs.Qxb6604271aMods
