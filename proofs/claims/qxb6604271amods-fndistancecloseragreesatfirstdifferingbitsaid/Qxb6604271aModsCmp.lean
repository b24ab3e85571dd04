/-
  Seat b6604271aM: zzlaws_root_b1.cmpBigEndian (function 11), by its contract.
-/
import Derived.Test.Qxb6604271aModsPlain
import Derived.Deep.QuietTactic
import Derived.BigQuiet
namespace Go.Proofs.Qxb6604271aMods
open Go.RowKit

/-- Byte by byte, the first that differs decides. -/
def cmpL : List Int → List Int → Int
  | x :: xs, y :: ys => if x < y then -1 else if y < x then 1 else cmpL xs ys
  | _, _ => 0

theorem drop_get {l : List Int} {k : Nat} {x : Int} (h : l[k]? = some x) : l.drop k = x :: l.drop (k + 1) := by
  obtain ⟨hk, rfl⟩ := List.getElem?_eq_some_iff.1 h
  exact List.drop_eq_getElem_cons hk

theorem two_0 (w : World) (A B : Obj) : ((w.alloc A).alloc B).heap[w.heap.size]? = some A := by
  rw [Below.heap_alloc _ _ _ (by simp)]; exact heap_alloc_new _ _
theorem two_1 (w : World) (A B : Obj) : ((w.alloc A).alloc B).heap[w.heap.size + 1]? = some B := by
  simpa using heap_alloc_new (w.alloc A) B

theorem cell_bts {w : World} {g : Nat} {l : List Int} (h : w.heap[g]? = some (.cells (bts l).toArray 26 (0, 0))) {k : Nat} {x : Int} (hx : l[k]? = some x) : w.cell? ⟨g, k, none⟩ = some (.int .u8 x) := by
  rw [cell_of_row _ _ _ _ _ _ h]; exact bts_get _ _ _ hx

set_option maxHeartbeats 1000000 in
theorem cmp_any (p q : List Int) (hp : IsB p) (hq : IsB q) (w : World) :
    Calls Trym.prog 11 #[.agg (bts p).toArray, .agg (bts q).toArray] w fun e w' => e = .returned (.int .i64 (cmpL p q)) ∧ Below w.heap.size w w' := by
  have hc : ∀ k x, p[k]? = some x → ((w.alloc (.cells (bts p).toArray 26)).alloc (.cells (bts q).toArray 26)).cell? ⟨w.heap.size, k, none⟩ = some (.int .u8 x) := fun k x hx => cell_bts (two_0 w _ _) hx
  have hd : ∀ k x, q[k]? = some x → ((w.alloc (.cells (bts p).toArray 26)).alloc (.cells (bts q).toArray 26)).cell? ⟨w.heap.size + 1, k, none⟩ = some (.int .u8 x) := fun k x hx => cell_bts (two_1 w _ _) hx
  have hbel : Below w.heap.size w ((w.alloc (.cells (bts p).toArray 26)).alloc (.cells (bts q).toArray 26)) := ((Below.refl _ _).alloc (Nat.le_refl _) _).alloc (by simp) _
  have HC := hc
  have HD := hd
  clear hc hd
  go_enter Trym.func11, Trym.ntmps11
  go_wp2
  generalize hW : World.alloc (World.alloc w _) _ = W2
  rw [hW] at hbel
  have hc : Hid (∀ k x, p[k]? = some x → W2.cell? ⟨w.heap.size, k, none⟩ = some (.int .u8 x)) := by rw [← hW]; exact HC
  have hd : Hid (∀ k x, q[k]? = some x → W2.cell? ⟨w.heap.size + 1, k, none⟩ = some (.int .u8 x)) := by rw [← hW]; exact HD
  clear HC HD hW
  go_loopw [5] (fun i wr => ∃ (k n : Nat), k ≤ 32 ∧ i = .int .i64 k ∧ Hid (cmpL p q = cmpL (p.drop k) (q.drop k)) ∧ wr = W2.drewN n) (fun i _ => 32 - (intOf i).toNat)
  case atStart => exact ⟨0, 0, by omega, rfl, rfl, rfl⟩
  case round =>
    obtain ⟨k, n, hk, rfl, HS, rfl⟩ := hrel
    by_cases hk2 : k < 32
    · obtain ⟨x, hx, hx0, hx1⟩ := hp.get hk2
      obtain ⟨y, hy, hy0, hy1⟩ := hq.get hk2
      have hcx := hc.out k x hx
      have hcy := hd.out k y hy
      have hkI : (k : Int) < 32 := by omega
      have HN : Hid (cmpL p q = if x < y then -1 else if y < x then 1 else cmpL (p.drop (k + 1)) (q.drop (k + 1))) := by
        show _ = _
        rw [HS.out, drop_get hx, drop_get hy]; rfl
      clear hx hy HS
      by_cases hxy : x < y
      · have ec : Hid (cmpL p q = -1) := by show _ = _; rw [HN.out, if_pos hxy]
        go_wp2
        go_quiet (fail)
        go_wp2
        go_ret
        exact ⟨by rw [ec.out]; rfl, below_drewN (below_drewN hbel _) _⟩
      · by_cases hyx : y < x
        · have ec : Hid (cmpL p q = 1) := by show _ = _; rw [HN.out, if_neg hxy, if_pos hyx]
          go_wp2
          go_quiet (fail)
          go_wp2
          go_quiet (fail)
          go_wp2
          go_ret
          exact ⟨by rw [ec.out]; rfl, below_drewN (below_drewN (below_drewN hbel _) _) _⟩
        · have ec : Hid (cmpL p q = cmpL (p.drop (k + 1)) (q.drop (k + 1))) := by show _ = _; rw [HN.out, if_neg hxy, if_neg hyx]
          go_wp2
          go_quiet (fail)
          go_wp2
          go_quiet (fail)
          go_wp2
          go_roundw
          case rel => exact ⟨k + 1, _, by omega, by go_num, ec, rfl⟩
          case measure => simp [intOf]; omega
    · have hke : k = 32 := by omega
      subst hke
      have ec : Hid (cmpL p q = 0) := by
        show _ = _
        rw [HS.out, List.drop_of_length_le (Nat.le_of_eq hp.1), List.drop_of_length_le (Nat.le_of_eq hq.1)]; rfl
      go_wp2
      go_ret
      exact ⟨by rw [ec.out]; rfl, below_drewN hbel _⟩
end Go.Proofs.Qxb6604271aMods
