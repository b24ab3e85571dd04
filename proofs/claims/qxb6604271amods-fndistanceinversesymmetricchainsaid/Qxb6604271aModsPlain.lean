/-
  Seat b6604271aM: the plain laws of the bytes' exclusive or; and '==' on two arrays of 32 bytes.
-/
import Derived.Test.Qxb6604271aModsDist
namespace Go.Proofs.Qxb6604271aMods
open Go.RowKit

/-! ### Exclusive or, byte by byte -/
theorem xorb_comm (x y : Int) : xorb x y = xorb y x := by unfold xorb; rw [Nat.xor_comm]
theorem xorb_back (x y : Int) (hx : 0 ≤ x) : xorb (xorb x y) y = x := by
  unfold xorb
  rw [Int.toNat_natCast, Nat.xor_assoc, Nat.xor_self, Nat.xor_zero]
  omega
theorem xorb_chain (x y z : Int) : xorb (xorb x y) (xorb y z) = xorb x z := by
  unfold xorb
  rw [Int.toNat_natCast, Int.toNat_natCast, Nat.xor_assoc, ← Nat.xor_assoc y.toNat, Nat.xor_self, Nat.zero_xor]
theorem xorb_zero {x y : Int} (hx : 0 ≤ x) (hy : 0 ≤ y) : xorb x y = 0 ↔ x = y := by
  unfold xorb
  constructor
  · intro h
    have h' : x.toNat ^^^ y.toNat = 0 := by omega
    have e : y.toNat = x.toNat ^^^ (x.toNat ^^^ y.toNat) := by rw [← Nat.xor_assoc, Nat.xor_self, Nat.zero_xor]
    rw [h', Nat.xor_zero] at e
    omega
  · intro h
    rw [h, Nat.xor_self]; rfl

theorem ext32 {x y : List Int} (hx : x.length = 32) (hy : y.length = 32) (h : ∀ k, k < 32 → x[k]? = y[k]?) : x = y := by
  apply List.ext_getElem?
  intro k
  by_cases hk : k < 32
  · exact h k hk
  · rw [List.getElem?_eq_none (by omega), List.getElem?_eq_none (by omega)]

theorem xorl_comm {a b : List Int} (ha : IsB a) (hb : IsB b) : xorl b a = xorl a b := by
  refine ext32 (xorl_len hb ha) (xorl_len ha hb) fun k hk => ?_
  obtain ⟨x, hx, _, _⟩ := ha.get hk
  obtain ⟨y, hy, _, _⟩ := hb.get hk
  rw [xorl_get hx hy, xorl_get hy hx, xorb_comm]
theorem xorl_back {a b : List Int} (ha : IsB a) (hb : IsB b) : xorl (xorl a b) b = a := by
  refine ext32 (xorl_len (ha.xorl hb) hb) ha.1 fun k hk => ?_
  obtain ⟨x, hx, hx0, _⟩ := ha.get hk
  obtain ⟨y, hy, _, _⟩ := hb.get hk
  rw [xorl_get (xorl_get hx hy) hy, xorb_back x y hx0, hx]
theorem xorl_forth {a b : List Int} (ha : IsB a) (hb : IsB b) : xorl a (xorl a b) = b := by
  rw [xorl_comm (ha.xorl hb) ha, xorl_comm hb ha]
  exact xorl_back hb ha
theorem xorl_chain {a b c : List Int} (ha : IsB a) (hb : IsB b) (hc : IsB c) : xorl (xorl a b) (xorl b c) = xorl a c := by
  refine ext32 (xorl_len (ha.xorl hb) (hb.xorl hc)) (xorl_len ha hc) fun k hk => ?_
  obtain ⟨x, hx, _, _⟩ := ha.get hk
  obtain ⟨y, hy, _, _⟩ := hb.get hk
  obtain ⟨z, hz, _, _⟩ := hc.get hk
  rw [xorl_get (xorl_get hx hy) (xorl_get hy hz), xorl_get hx hz, xorb_chain]
theorem xorl_zero {a b : List Int} (ha : IsB a) (hb : IsB b) : xorl a b = List.replicate 32 0 ↔ a = b := by
  constructor
  · intro h
    refine ext32 ha.1 hb.1 fun k hk => ?_
    obtain ⟨x, hx, hx0, _⟩ := ha.get hk
    obtain ⟨y, hy, hy0, _⟩ := hb.get hk
    have hg := xorl_get hx hy
    rw [h, List.getElem?_replicate, if_pos hk] at hg
    have := (xorb_zero hx0 hy0).1 (by simpa using hg.symm)
    rw [hx, hy, this]
  · intro h
    subst h
    refine ext32 (xorl_len ha ha) (by simp) fun k hk => ?_
    obtain ⟨x, hx, hx0, _⟩ := ha.get hk
    rw [xorl_get hx hx, (xorb_zero hx0 hx0).2 rfl, List.getElem?_replicate, if_pos hk]

/-! ### Two arrays of 32 bytes, compared -/
theorem Trym.cells5 : Trym.prog.cellsOf 5 = 1 := by kernel_rfl
theorem Trym.info5 : (Trym.prog.info? 5).map (fun i => (i.zero, i.size, i.bytes)) = some (some (.int .u8 0), 1, 1) := by kernel_rfl

theorem part_bts (x : List Int) (i : Nat) (v : Int) (h : x[i]? = some v) (w : World) : (Go.part 5 (bts x).toArray (i * 1)).run Trym.prog w = .ok (.int .u8 v) w := by
  have hagg : (isAgg 5).run Trym.prog w = .ok false w := by
    unfold isAgg
    rw [Sem.run_bind, run_underlying Trym.underlying5 w]
    simp
  have hb := bts_get x i v h
  simp [Go.part, Sem.run_bind, hagg, hb]

theorem items_run (x y : List Int) (hx : x.length = 32) (hy : y.length = 32) (w : World) : ∀ is : List Nat, (∀ i ∈ is, i < 32) →
    (Op.eqItems 9999 5 1 (bts x).toArray (bts y).toArray is).run Trym.prog w = .ok (is.all fun i => x[i]? == y[i]?) w
  | [], _ => by simp [Op.eqItems]
  | i :: is, h => by
    have hi : i < 32 := h i (by simp)
    have ih := items_run x y hx hy w is (fun j hj => h j (by simp [hj]))
    have gx : x[i]? = some x[i] := List.getElem?_eq_getElem (by omega)
    have gy : y[i]? = some y[i] := List.getElem?_eq_getElem (by omega)
    have he : (Op.equalIn 9999 5 (.int .u8 x[i]) (.int .u8 y[i])).run Trym.prog w = .ok (x[i] == y[i]) w := run_equalIn_int w 9998 5 .u8 .u8 _ _ Trym.underlying5
    simp only [Op.eqItems, Sem.run_bind, part_bts x i _ gx, part_bts y i _ gy, he, Result.andThen_ok]
    cases hq : (x[i] == y[i])
    · simp [gx, gy, hq]
    · simp [gx, gy, hq, ih]

theorem eqBytes_run (x y : List Int) (hx : x.length = 32) (hy : y.length = 32) (w : World) :
    (Op.equalIn 10000 26 (.agg (bts x).toArray) (.agg (bts y).toArray)).run Trym.prog w = .ok (decide (x = y)) w := by
  obtain ⟨i0, hi, _, _, _⟩ := info_parts Trym.info5
  have h1 := run_equalIn_array w 9999 (bts x).toArray (bts y).toArray Trym.underlying26 hi
  rw [Trym.cells5, items_run x y hx hy w _ (fun i hi => List.mem_range.1 hi)] at h1
  refine h1.trans ?_
  congr 1
  rw [Bool.eq_iff_iff, List.all_eq_true, decide_eq_true_iff]
  constructor
  · intro h
    exact ext32 hx hy fun k hk => by simpa using h k (List.mem_range.2 hk)
  · rintro rfl
    simp
end Go.Proofs.Qxb6604271aMods
