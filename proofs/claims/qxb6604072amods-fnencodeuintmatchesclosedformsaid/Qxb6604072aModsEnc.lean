/-
  Seat b6604072aM: coap.encodeUint (function 9), the shim ZZencodeUint (6) and byteWidth (7), each by a contract. 'lows v k': the lowest k bytes of v, the highest of them first.
-/
import Derived.Test.Qxb6604072aModsRows
import Derived.WalkKit
import Derived.WalkSpells
import Derived.WalkLawsBesides
import Derived.Laws.AppendOwnNone
namespace Go.Proofs.Qxb6604072aMods
open Go.RowKit

/-- The lowest k bytes of v, the highest of them first. -/
def lows (v : Int) : Nat → List Int
  | 0 => []
  | k + 1 => (v / 256 ^ k % 256) :: lows v k

theorem lows_len (v : Int) (k : Nat) : (lows v k).length = k := by
  induction k with
  | zero => rfl
  | succ k ih => simp [lows, ih]

theorem Trym.info5 : (Trym.prog.info? 5).map (fun i => (i.zero, i.size, i.bytes)) = some (some (.int .u8 0), 1, 1) := by kernel_rfl

theorem own_new (wr : World) (B : Nat) (hB : B ≤ wr.heap.size) (y : Int) :
    (wr.alloc (.cells #[.int .u8 y] 5)).ownsRow B 5 1 (.slice (some ⟨wr.heap.size, 0, none⟩) 1 1) 1 [.int .u8 y] :=
  ⟨by simp, .inr ⟨wr.heap.size, 1, #[.int .u8 y], rfl, hB, heap_alloc_new wr _, by omega, by unfold maxLen; omega, by simp, by simp⟩⟩

theorem k_lt (v : Int) (h0 : 0 ≤ v) (h1 : v < 4294967296) (k : Nat) (hk : k ≤ 4) (h : v / 256 ^ k ≠ 0) : k < 4 := by
  by_cases e : k = 4
  · subst e; exact absurd (by omega) h
  · omega

theorem div_next (v : Int) (k : Nat) : v / 256 ^ (k + 1) = v / 256 ^ k / 256 := by
  rw [Int.pow_succ, Int.ediv_ediv_of_nonneg (Int.pow_nonneg (by decide))]

/-- What a round does to the relation. -/
theorem rel_step {v x : Int} {k B : Nat} {w w1 : World} {v' : Value} (h0 : 0 ≤ v) (h1 : v < 4294967296) (hk : k ≤ 4) (hx0 : 0 ≤ x) (hx1 : x < 4294967296) (hx : Hid (x = v / 256 ^ k)) (hxz : ¬ x = 0)
    (hown : w1.ownsRow B 5 1 v' (1 + k) ([.int .u8 (x % 256)] ++ (lows v k).map (Value.int .u8))) (hb : Below B w w1) :
    ∃ (k' : Nat) (x' : Int), k' ≤ 4 ∧ Value.int .u32 (x / 256) = .int .u32 x' ∧ 0 ≤ x' ∧ x' < 4294967296 ∧ Hid (x' = v / 256 ^ k') ∧ w1.ownsRow B 5 1 v' k' ((lows v k').map (Value.int .u8)) ∧ (k' = 0 → v' = .slice none 0 0) ∧ Hid (∀ j, k' = j + 1 → v / 256 ^ j ≠ 0) ∧ Below B w w1 := by
  have hx' := hx.out
  have hk4 := k_lt v h0 h1 k hk (by rw [← hx']; exact hxz)
  refine ⟨k + 1, x / 256, by omega, rfl, by omega, by omega, ?_, ?_, fun h => by omega, ?_, hb⟩
  · show x / 256 = _
    rw [div_next, ← hx']
  · rw [Nat.add_comm 1 k] at hown
    simpa [lows, ← hx'] using hown
  · intro j hj
    have : j = k := by omega
    subst this
    rw [← hx']; exact hxz

/-- The cells of an owned row lie there still behind a new block. -/
theorem cells_behind {wr : World} {g k : Nat} {cur : Array Value} {xs : List Value} (o : Obj) (hcur : wr.heap[g]? = some (.cells cur 5 (0, 0))) (htk : cur.toList.take (k * 1) = xs) :
    ∀ j u, xs[j]? = some u → (wr.alloc o).cell? ((⟨g, 0, none⟩ : Addr).add j) = some u := by
  intro j u hj
  have hlt : g < wr.heap.size := (Array.getElem?_eq_some_iff.1 hcur).1
  have hadd : (⟨g, 0, none⟩ : Addr).add j = ⟨g, j, none⟩ := by unfold Addr.add; split <;> simp_all
  rw [hadd, cell_of_row _ g j cur 5 (0, 0) (by rw [Below.heap_alloc _ _ _ hlt]; exact hcur)]
  rw [← htk, List.getElem?_take] at hj
  split at hj
  · simpa using hj
  · simp at hj

theorem one_each (l : List Int) : ∀ u ∈ l.map (Value.int .u8), u.oneCell' = true := by
  intro u hu
  obtain ⟨z, _, rfl⟩ := List.mem_map.1 hu
  rfl

set_option maxHeartbeats 400000 in
theorem enc_any (v : Int) (h0 : 0 ≤ v) (h1 : v < 4294967296) (w : World) :
    Calls Trym.prog 9 #[.int .u32 v] w fun e w' => ∃ (k : Nat) (bv : Value), e = .returned bv ∧ k ≤ 4 ∧
      w'.ownsRow w.heap.size 5 1 bv k ((lows v k).map (Value.int .u8)) ∧ (k = 0 → bv = .slice none 0 0) ∧ v / 256 ^ k = 0 ∧ (∀ j, k = j + 1 → v / 256 ^ j ≠ 0) ∧ Below w.heap.size w w' := by
  obtain ⟨i0, hi, hz0, hz1, hz2⟩ := info_parts Trym.info5
  go_enter Trym.func9, Trym.ntmps9
  go_wp2
  go_loopw [0, 3] (fun xv bv wr => ∃ (k : Nat) (x : Int), k ≤ 4 ∧ xv = .int .u32 x ∧ 0 ≤ x ∧ x < 4294967296 ∧ Hid (x = v / 256 ^ k) ∧ wr.ownsRow w.heap.size 5 1 bv k ((lows v k).map (Value.int .u8)) ∧ (k = 0 → bv = .slice none 0 0) ∧ Hid (∀ j, k = j + 1 → v / 256 ^ j ≠ 0) ∧ Below w.heap.size w wr)
    (fun xv _ _ => (intOf xv).toNat)
  case atStart => exact ⟨0, v, by omega, rfl, h0, h1, (by show v = _; simp), World.ownsRow_nil _ _ _ _, fun _ => rfl, (fun j hj => by omega), Below.refl _ _⟩
  case round =>
    obtain ⟨k, x, hk, rfl, hx0, hx1, hx, hown, hnil, hj, hb⟩ := hrel
    have hB := hb.size
    by_cases hxz : x = 0
    · subst hxz
      go_wp2
      go_ret
      exact ⟨k, _, rfl, hk, hown, hnil, hx.out.symm, hj, hb⟩
    · rcases hown with ⟨hlen, ⟨rfl, rfl⟩ | ⟨g, cap, cur, rfl, hg, hcur, hkc, hcm, hcs, htk⟩⟩
      · go_wp2_with (at_builtin; refine wpList_append_own_none rfl _ _ 23 rfl w.heap.size 5 i0 1 Trym.underlying23 hi _ 1 [.int .u8 (x % 256)] rfl (own_new wr _ hB _) rfl ?_)
        go_roundw
        case rel => exact rel_step h0 h1 hk hx0 hx1 hx hxz (by simpa [lows] using own_new wr _ hB (x % 256)) (hb.alloc hB _)
        case measure => simp [intOf]; omega
      · have hlt : g < wr.heap.size := (Array.getElem?_eq_some_iff.1 hcur).1
        have hmx : 1 + k ≤ maxLen := by unfold maxLen; omega
        go_wp2_with (at_builtin; refine wpList_append_own _ rfl _ _ 23 rfl w.heap.size 5 i0 (.int .u8 0) 1 1 Trym.underlying23 hi hz0 hz1 hz2 rfl (by decide) _ 1 [.int .u8 (x % 256)] rfl (own_new wr _ hB _) ⟨g, 0, none⟩ k cap ((lows v k).map (Value.int .u8)) rfl hlen (cells_behind (k := k) _ hcur htk) (one_each _) hmx (by omega) (by simp; omega) ?_)
        intro v' w1 hown' hgrow _
        have hb1 : Below w.heap.size w w1 := (hb.alloc hB _).grown hgrow (by simp; omega) (by intro q hq; simp [Value.ownBlock] at hq; omega)
        have R := rel_step h0 h1 hk hx0 hx1 hx hxz hown' hb1
        clear hown' hgrow
        go_wp2
        go_roundw
        case rel => exact R
        case measure => simp [intOf]; omega

/-- What is owned, told cell by cell. -/
theorem lows_get (v : Int) (k j : Nat) (hj : j < k) : (lows v k)[j]? = some (v / 256 ^ (k - 1 - j) % 256) := by
  induction k generalizing j with
  | zero => omega
  | succ k ih =>
    cases j with
    | zero => simp [lows]
    | succ j =>
      simp only [lows, List.getElem?_cons_succ]
      rw [ih j (by omega)]
      have e : k + 1 - 1 - (j + 1) = k - 1 - j := by omega
      rw [e]

/-- The shim, at 0: nil. -/
theorem zz_zero (w : World) : Calls Trym.prog 6 #[.int .u32 0] w fun e w' => e = .returned (.slice none 0 0) ∧ Below w.heap.size w w' := by
  go_enter Trym.func6, Trym.ntmps6
  go_wp2_with (go_at_call 9; refine (enc_any 0 (by omega) (by omega) _).mono ?_; rintro e w' ⟨k, bv, rfl, hk, hown, hnil, hlt, hge, hb⟩)
  go_ret
  cases k with
  | zero => exact ⟨by rw [hnil rfl]; rfl, hb⟩
  | succ j => exact absurd (by simp) (hge j rfl)

/-- The shim, at a number above 0: k bytes of the call's own. -/
theorem zz_pos (v : Int) (h0 : 0 < v) (h1 : v < 4294967296) (w : World) :
    Calls Trym.prog 6 #[.int .u32 v] w fun e w' => ∃ k g cap : Nat, e = .returned (.slice (some ⟨g, 0, none⟩) k cap) ∧ 1 ≤ k ∧ k ≤ 4 ∧ w.heap.size ≤ g ∧ g < w'.heap.size ∧
      (∀ j, j < k → w'.cell? ⟨g, j, none⟩ = some (.int .u8 (v / 256 ^ (k - 1 - j) % 256))) ∧ v / 256 ^ k = 0 ∧ v / 256 ^ (k - 1) ≠ 0 ∧ Below w.heap.size w w' := by
  go_enter Trym.func6, Trym.ntmps6
  go_wp2_with (go_at_call 9; refine (enc_any v (by omega) h1 _).mono ?_; rintro e w' ⟨k, bv, rfl, hk, hown, hnil, hlt, hge, hb⟩)
  go_ret
  cases k with
  | zero => simp at hlt; omega
  | succ j =>
    rcases hown with ⟨hlen, ⟨rfl, h⟩ | ⟨g, cap, cur, rfl, hg, hcur, hkc, hcm, hcs, htk⟩⟩
    · omega
    · refine ⟨j + 1, g, cap, rfl, by omega, hk, hg, (Array.getElem?_eq_some_iff.1 hcur).1, fun i hi => ?_, hlt, hge j rfl, hb⟩
      rw [cell_of_row _ g i cur 5 (0, 0) hcur]
      have e1 : (cur.toList.take ((j + 1) * 1))[i]? = cur.toList[i]? := by rw [List.getElem?_take, if_pos (by omega)]
      have e2 : cur.toList[i]? = some (.int .u8 (v / 256 ^ (j + 1 - 1 - i) % 256)) := by
        rw [← e1, htk, List.getElem?_map, lows_get v (j + 1) i hi]; rfl
      simpa using e2

/-- byteWidth. -/
theorem width_zero (w : World) : Calls Trym.prog 7 #[.int .u32 0] w fun e w' => e = .returned (.int .i64 0) ∧ w' = w := by
  go_enter Trym.func7, Trym.ntmps7
  go_wp2
  go_ret
  exact ⟨rfl, rfl⟩

theorem width_any (v : Int) (k : Nat) (hk1 : 1 ≤ k) (hk : k ≤ 4) (h0 : 0 < v) (h1 : v / 256 ^ k = 0) (h2 : v / 256 ^ (k - 1) ≠ 0) (w : World) : Calls Trym.prog 7 #[.int .u32 v] w fun e w' => e = .returned (.int .i64 k) ∧ w' = w := by
  match k, hk1, hk, h1, h2 with
  | 1, _, _, h1, h2 =>
    have g1 : v ≤ 255 := by omega
    clear h1 h2
    go_enter Trym.func7, Trym.ntmps7
    go_wp2
    go_ret
    exact ⟨rfl, rfl⟩
  | 2, _, _, h1, h2 =>
    have g1 : v ≤ 65535 := by omega
    have g2 : 255 < v := by simp at h2; omega
    clear h1 h2
    go_enter Trym.func7, Trym.ntmps7
    go_wp2
    go_ret
    exact ⟨rfl, rfl⟩
  | 3, _, _, h1, h2 =>
    have g1 : v ≤ 16777215 := by omega
    have g2 : 65535 < v := by simp at h2; omega
    clear h1 h2
    go_enter Trym.func7, Trym.ntmps7
    go_wp2
    go_ret
    exact ⟨rfl, rfl⟩
  | 4, _, _, h1, h2 =>
    have g2 : 16777215 < v := by simp at h2; omega
    clear h1 h2
    go_enter Trym.func7, Trym.ntmps7
    go_wp2
    go_ret
    exact ⟨rfl, rfl⟩
end Go.Proofs.Qxb6604072aMods
