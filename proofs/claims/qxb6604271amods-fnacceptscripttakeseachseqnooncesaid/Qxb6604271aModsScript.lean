/-
  Seat b6604271aM: the walk of FnAcceptScriptTakesEachSeqnoOnce (function 7).
-/
import Derived.Test.Qxb6604271aModsTaken
namespace Go.Proofs.Qxb6604271aMods
open Go.RowKit

theorem Trym.info2 : (Trym.prog.info? 2).map (fun i => (i.zero, i.size, i.bytes)) = some (some (.int .i64 0), 1, 8) := by kernel_rfl

/-- What was taken lies in the call's own array; nothing old has turned. -/
def Inv (w wr : World) (n : Nat) (T : List Int) : Prop :=
  wr.ownsRow w.heap.size 2 1 (.slice (some ⟨w.heap.size, 0, none⟩) T.length n) T.length (T.map (Value.int .i64)) ∧ Below w.heap.size w wr

theorem Inv.later {w wr w1 : World} {n : Nat} {T : List Int} (h : Inv w wr n T) (hb : Below wr.heap.size wr w1) : Inv w w1 n T :=
  ⟨h.1.kept (row := none) ⟨hb.os, hb.tape, hb.output, hb.size, fun k hk _ => hb.block k hk⟩ (.inr (by simp [Value.ownBlock])), h.2.trans (hb.mono h.2.size)⟩
theorem Inv.cells {w wr : World} {n : Nat} {T : List Int} (h : Inv w wr n T) (j : Nat) (x : Int) (hx : T[j]? = some x) : wr.cell? ⟨w.heap.size, j, none⟩ = some (.int .i64 x) := by
  have hj := (List.getElem?_eq_some_iff.1 hx).1
  rw [h.1.cellAt j (by omega), List.getElem?_map, hx]
  rfl
theorem Inv.took {w w1 w2 : World} {n : Nat} {T : List Int} {q : Int} {o : Obj} (h : Inv w w1 n T) (hown : w2.ownsRow w.heap.size 2 1 (.slice (some ⟨w.heap.size, 0, none⟩) (T.length + 1) n) (T.length + 1) (T.map (Value.int .i64) ++ [.int .i64 q]))
    (hg : (w1.alloc o).grownBy w2 (some w.heap.size)) : Inv w w2 n (T ++ [q]) := by
  refine ⟨by simpa using hown, (h.2.alloc h.2.size _).grown hg (by have := h.2.size; simp; omega) (fun k hk => by cases hk; exact Nat.le_refl _)⟩

theorem contains_to (g cap : Nat) (T : List Int) (v : Int) (r : Bool) (hm : T.length ≤ 4096) (w : World) (hc : ∀ (j : Nat) (x : Int), T[j]? = some x → w.cell? ⟨g, j, none⟩ = some (.int .i64 x)) (hr : memB T v = r) :
    Calls Trym.prog 15 #[.slice (some ⟨g, 0, none⟩) T.length cap, .int .i64 v] w fun e w' => e = .returned (.bool r) ∧ w' = w := by
  subst hr; exact contains_any g cap T v hm w hc

theorem one_new (w : World) (q : Int) (t : TypeId) : ∀ (j : Nat) (u : Value), [Value.int .i64 q][j]? = some u → (w.alloc (.cells #[.int .i64 q] t)).cell? ((⟨w.heap.size, 0, none⟩ : Addr).add j) = some u := by
  intro j u hj
  match j, hj with
  | 0, hj => simp at hj; subst hj; simp [Addr.add]

theorem one_each (q : Int) : ∀ u ∈ [Value.int .i64 q], u.oneCell' = true := by
  intro u hu
  simp at hu
  subst hu; rfl

set_option maxHeartbeats 400000 in
theorem script_many (ao : Option Addr) (n cap : Nat) (w : World) (hn : 4096 < n) :
    Calls Trym.prog 7 #[.slice ao n cap] w fun e w' => e = .returned (.bool true) ∧ Below w.heap.size w w' := by
  by_cases hn2 : 1048576 < n
  · go_enter Trym.func7, Trym.ntmps7
    go_wp2_with (go_at_call 14; refine (bytes_many ao n cap _ hn2).mono ?_; rintro e w' ⟨rfl, rfl⟩)
    go_ret
    exact ⟨rfl, Below.refl _ _⟩
  · have hn' : (4096 : Int) < (n : Int) := by omega
    go_enter Trym.func7, Trym.ntmps7
    go_wp2_with (go_at_call 14; refine (bytes_few ao n cap _ (by omega)).mono ?_; rintro e w' ⟨rfl, rfl⟩)
    go_ret
    exact ⟨rfl, Below.refl _ _⟩

set_option maxHeartbeats 1000000 in
theorem script_row (b off n cap : Nat) (Z : Nat → Int) (w : World) (hn : n ≤ 4096) (hbw : b < w.heap.size) (hZ : ∀ i, i < n → Z i < 9223372036854775808)
    (hc : ∀ i, i < n → w.cell? ⟨b, off + i, none⟩ = some (.int .i64 (Z i))) :
    Calls Trym.prog 7 #[.slice (some ⟨b, off, none⟩) n cap] w fun e w' => e = .returned (.bool true) ∧ Below w.heap.size w w' := by
  have hn' : (n : Int) ≤ 4096 := by omega
  obtain ⟨i0, hi, hz0, hz1, hz2⟩ := info_parts Trym.info2
  have HC : Hid (∀ i, i < n → w.cell? ⟨b, off + i, none⟩ = some (.int .i64 (Z i))) := hc
  have HZ : Hid (∀ i, i < n → Z i < 9223372036854775808) := hZ
  clear hc hZ
  go_enter Trym.func7, Trym.ntmps7
  go_wp2_with (go_at_call 14; refine (bytes_few _ n cap _ (by omega)).mono ?_; rintro e w' ⟨rfl, rfl⟩)
  go_loop [3] (fun i => ∃ k : Nat, k ≤ n ∧ i = .int .i64 k ∧ Hid (∀ j, j < k → 1 ≤ Z j)) (fun i => n - (intOf i).toNat)
  case atStart => exact ⟨0, by omega, rfl, fun j hj => by omega⟩
  case round =>
    obtain ⟨k, hk, rfl, HN⟩ := hrel
    by_cases hkn : k < n
    · have hcx := HC.out k hkn
      by_cases hz : Z k < 1
      · go_wp2
        go_ret
        exact ⟨rfl, Below.refl _ _⟩
      · have HN' : Hid (∀ j, j < k + 1 → 1 ≤ Z j) := fun j hj => by
          by_cases e : j = k
          · subst e; omega
          · exact HN.out j (by omega)
        go_wp2
        go_round
        case rel => exact ⟨k + 1, by omega, by go_num, HN'⟩
        case measure => simp [intOf]; omega
    · have hke : k = n := by omega
      subst hke
      go_wp2_with (at_make; refine wpList_make_own _ rfl _ _ 35 rfl _ 2 i0 (.int .i64 0) 1 Trym.underlying35 hi hz0 hz1 _ _ _ k rfl rfl (by omega) (by rw [hz2]; omega) (by unfold maxLen; omega) (Nat.le_refl _) ?_; intro w0 hown0 hgrow0)
      have hI0 : Inv w' w0 k [] := ⟨hown0, (Below.refl _ _).grown hgrow0 (Nat.le_refl _) (fun j hj => by cases hj)⟩
      clear hown0 hgrow0
      go_loopw [4, 5, 6, 7, 8] (fun hv sv mv tv iv wr => ∃ (j : Nat) (T : List Int) (h s : Int), j ≤ k ∧ T.length ≤ j ∧ iv = .int .i64 j ∧ hv = .int .i64 h ∧ sv = .int .u64 s ∧ mv = .int .i64 h ∧ tv = .slice (some ⟨w'.heap.size, 0, none⟩) T.length k ∧ Inv w' wr k T ∧ Kept h s T)
        (fun _ _ _ _ iv _ => k - (intOf iv).toNat)
      case atStart => exact ⟨0, [], 0, 0, by omega, by simp, rfl, rfl, rfl, rfl, rfl, hI0, kept_start⟩
      case round =>
        obtain ⟨j, T, h, s, hj, hTj, rfl, rfl, rfl, rfl, rfl, hI, hK⟩ := hrel
        by_cases hjk : j < k
        · obtain ⟨q, hqd⟩ : ∃ q, q = Z j := ⟨_, rfl⟩
          have hcq : wr.cell? ⟨b, off + j, none⟩ = some (.int .i64 q) := by rw [hqd]; exact (hI.2.cell (p := ⟨b, off + j, none⟩) hbw).trans (HC.out j hjk)
          have hq1 : 1 ≤ q := by rw [hqd]; exact HN.out j hjk
          have hq2 : q < 9223372036854775808 := by rw [hqd]; exact HZ.out j hjk
          clear hqd
          go_wp2_with fail
          refine (zzaccept_any h s q hK.h0 hK.h1 hK.s0 hK.s1 hq1 hq2 _).mono ?_
          rintro e w1 ⟨ok, h', s', rfl, hsp, hb1⟩
          have hI1 := hI.later hb1
          clear hb1 hI hcq
          have hh0 := hK.h0
          have hh1 := hK.h1
          by_cases hlt : h < q
          · obtain ⟨ef, em⟩ := hK.fresh_up hlt
            have eok : ok = true := hsp.1.trans ef
            subst eok
            obtain ⟨hK', e4⟩ := hK.took hq2 hsp
            rw [if_pos hlt] at e4
            subst e4
            have EM : Hid (memB T h' = false) := em
            clear ef em hsp
            go_wp2_with (first | (go_at_call 15; refine (contains_to w'.heap.size k T h' false (by omega) _ hI1.cells EM.out).mono ?_; rintro e w2 ⟨rfl, hw2⟩; subst hw2) | (at_builtin; refine wpList_append_fits _ rfl _ _ 35 rfl w'.heap.size 2 i0 1 Trym.underlying35 hi hz1 w'.heap.size T.length k (T.map (Value.int .i64)) rfl (hI1.1.alloc _) ⟨_, 0, none⟩ 1 1 [.int .i64 h'] rfl rfl (one_new _ _ _) (one_each _) (by omega) ?_; intro w3 hown3 hgrow3))
            go_roundw
            case rel => exact ⟨j + 1, T ++ [h'], h', s', by omega, by simp; omega, by go_num, rfl, rfl, rfl, by simp, hI1.took hown3 hgrow3, hK'⟩
            case measure => simp [intOf]; omega
          · have hdq : decide (h < q) = false := decide_eq_false hlt
            by_cases hf : h - q < 64
            · have ef := hK.fresh_in hlt hf
              cases em : memB T q with
              | false =>
                rw [em] at ef
                have eok : ok = true := hsp.1.trans ef
                subst eok
                obtain ⟨hK', e4⟩ := hK.took hq2 hsp
                rw [if_neg hlt] at e4
                subst e4
                have EM : Hid (memB T q = false) := em
                clear ef em hsp
                go_wp2_with (first | (go_at_call 15; refine (contains_to w'.heap.size k T q false (by omega) _ hI1.cells EM.out).mono ?_; rintro e w2 ⟨rfl, hw2⟩; subst hw2) | (at_builtin; refine wpList_append_fits _ rfl _ _ 35 rfl w'.heap.size 2 i0 1 Trym.underlying35 hi hz1 w'.heap.size T.length k (T.map (Value.int .i64)) rfl (hI1.1.alloc _) ⟨_, 0, none⟩ 1 1 [.int .i64 q] rfl rfl (one_new _ _ _) (one_each _) (by omega) ?_; intro w3 hown3 hgrow3))
                go_roundw
                case rel => exact ⟨j + 1, T ++ [q], h', s', by omega, by simp; omega, by go_num, rfl, rfl, rfl, by simp, hI1.took hown3 hgrow3, hK'⟩
                case measure => simp [intOf]; omega
              | true =>
                rw [em] at ef
                have eok : ok = false := hsp.1.trans ef
                subst eok
                obtain ⟨e4, e5⟩ := hsp.2.1 rfl
                subst e4 e5
                have EM : Hid (memB T q = true) := em
                clear ef em hsp
                go_wp2_with (go_at_call 15; refine (contains_to w'.heap.size k T q true (by omega) _ hI1.cells EM.out).mono ?_; rintro e w2 ⟨rfl, hw2⟩; subst hw2)
                go_roundw
                case rel => exact ⟨j + 1, T, h', s', by omega, by omega, by go_num, rfl, rfl, rfl, rfl, hI1, hK⟩
                case measure => simp [intOf]; omega
            · have ef := Kept.fresh_far (s := s) hlt hf
              have eok : ok = false := hsp.1.trans ef
              subst eok
              obtain ⟨e4, e5⟩ := hsp.2.1 rfl
              subst e4 e5
              clear ef hsp
              cases em : memB T q with
              | false =>
                have EM : Hid (memB T q = false) := em
                clear em
                go_wp2_with (go_at_call 15; refine (contains_to w'.heap.size k T q false (by omega) _ hI1.cells EM.out).mono ?_; rintro e w2 ⟨rfl, hw2⟩; subst hw2)
                go_roundw
                case rel => exact ⟨j + 1, T, h', s', by omega, by omega, by go_num, rfl, rfl, rfl, rfl, hI1, hK⟩
                case measure => simp [intOf]; omega
              | true =>
                have EM : Hid (memB T q = true) := em
                clear em
                go_wp2_with (go_at_call 15; refine (contains_to w'.heap.size k T q true (by omega) _ hI1.cells EM.out).mono ?_; rintro e w2 ⟨rfl, hw2⟩; subst hw2)
                go_roundw
                case rel => exact ⟨j + 1, T, h', s', by omega, by omega, by go_num, rfl, rfl, rfl, rfl, hI1, hK⟩
                case measure => simp [intOf]; omega
        · go_wp2
          go_ret
          exact ⟨rfl, hI.2⟩

set_option maxHeartbeats 400000 in
theorem script_zero (ao : Option Addr) (cap : Nat) (w : World) :
    Calls Trym.prog 7 #[.slice ao 0 cap] w fun e w' => e = .returned (.bool true) ∧ Below w.heap.size w w' := by
  obtain ⟨i0, hi, hz0, hz1, hz2⟩ := info_parts Trym.info2
  go_enter Trym.func7, Trym.ntmps7
  go_wp2_with (go_at_call 14; refine (bytes_few _ 0 cap _ (by omega)).mono ?_; rintro e w' ⟨rfl, rfl⟩)
  refine wp_loop_rounds 1 ?_
  rw [rounds_succ]
  go_wp2_with (at_make; refine wpList_make_own _ rfl _ _ 35 rfl _ 2 i0 (.int .i64 0) 1 Trym.underlying35 hi hz0 hz1 _ _ _ 0 rfl rfl rfl (by omega) (by omega) (Nat.le_refl _) ?_; intro w0 hown0 hgrow0)
  refine wp_loop_rounds 1 ?_
  rw [rounds_succ]
  go_wp2
  go_ret
  exact ⟨rfl, (Below.refl _ _).grown hgrow0 (Nat.le_refl _) (fun j hj => by cases hj)⟩
end Go.Proofs.Qxb6604271aMods
