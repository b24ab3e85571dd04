/-
  Seat b6604271aM: the walk of FnDistanceInverseSymmetricChain (function 4). Each drawn region is taken by the kit's own laws ('wp_region_held_drew', 'wpAnyH_take', 'wpAnyH_ready', 'AllReadyH.cons'), typed out: a whole array's load is taken first, a call goes by its contract.
-/
import Derived.Test.Qxb6604271aModsPlain
import Derived.Deep.RegionHeld3
namespace Go.Proofs.Qxb6604271aMods
open Go.RowKit

theorem dist_to (a b c : List Int) (ha : IsB a) (hb : IsB b) (h : xorl a b = c) (w : World) :
    Calls Trym.prog 10 #[.agg (bts a).toArray, .agg (bts b).toArray] w fun e w' => e = .returned (.agg (bts c).toArray) ∧ Below w.heap.size w w' := by
  subst h; exact zzdist_any a b ha hb w

theorem rangeAt_later {w w' : World} {g : Nat} {cs : List Value} (h : w.rangeAt g 0 cs) (hb : Below w.heap.size w w') : w'.rangeAt g 0 cs := fun j v hv => by
  have h1 := h j v hv
  exact (hb.cell (p := ⟨g, 0 + j, none⟩) (World.block_lt_of_cell? w _ h1)).trans h1
theorem rangeAt_row {w : World} {g : Nat} {l : List Int} (h : w.heap[g]? = some (.cells (bts l).toArray 26 (0, 0))) : w.rangeAt g 0 (bts l) := fun j v hv => by
  rw [cell_of_row _ _ _ _ _ _ h]
  simpa using hv

/-- What the walk of a law over three arrays keeps: the three boxes, a fourth block, and that nothing old has turned. -/
structure Four (w : World) (D : Nat) (a b c d : List Int) (w' : World) : Prop where
  a : w'.rangeAt w.heap.size 0 (bts a)
  b : w'.rangeAt (w.heap.size + 1) 0 (bts b)
  c : w'.rangeAt (w.heap.size + 1 + 1) 0 (bts c)
  d : w'.rangeAt D 0 (bts d)
  bel : Below w.heap.size w w'

theorem Four.later {w w1 w2 : World} {D : Nat} {a b c d : List Int} (h : Four w D a b c d w1) (hb : Below w1.heap.size w1 w2) : Four w D a b c d w2 :=
  ⟨rangeAt_later h.a hb, rangeAt_later h.b hb, rangeAt_later h.c hb, rangeAt_later h.d hb, h.bel.trans (hb.mono h.bel.size)⟩
theorem Four.drew {w w1 : World} {D : Nat} {a b c d : List Int} (h : Four w D a b c d w1) : Four w D a b c d w1.drew := h.later (Below.refl _ _).drew

theorem four_start {w w1 : World} {a b c d : List Int} {Z : Array Value} (hb1 : Below (((w.alloc (.cells (bts a).toArray 26)).alloc (.cells (bts b).toArray 26)).alloc (.cells (bts c).toArray 26)).heap.size (((w.alloc (.cells (bts a).toArray 26)).alloc (.cells (bts b).toArray 26)).alloc (.cells (bts c).toArray 26)) w1) :
    Four w w1.heap.size a b c d ((w1.alloc (.cells Z 26)).setRow w1.heap.size (bts d).toArray) := by
  have hz : w.heap.size + 3 ≤ w1.heap.size := by have := hb1.size; rw [three_size] at this; exact this
  have bel : Below w1.heap.size w1 ((w1.alloc (.cells Z 26)).setRow w1.heap.size (bts d).toArray) := below_setRow' ((Below.refl _ _).alloc (Nat.le_refl _) _) (Nat.le_refl _) _
  refine ⟨rangeAt_later (rangeAt_later (rangeAt_row (three_0 w _ _ _)) hb1) bel, rangeAt_later (rangeAt_later (rangeAt_row (three_1 w _ _ _)) hb1) bel, rangeAt_later (rangeAt_later (rangeAt_row (three_2 w _ _ _)) hb1) bel, ?_, ?_⟩
  · exact rangeAt_row (setRow_heap _ _ _ _ _ _ (heap_alloc_new _ _))
  · exact ((three_below w _ _ _).trans (hb1.mono (by rw [three_size]; omega))).trans (bel.mono (by omega))

/-- In a region that draws its order: a whole array of 32 bytes is loaded: it may be taken first. -/
theorem takeRow {ops : Array Oper} {Q : Exit → Act → World → Prop} {md : Region.Mode} {S : World → Prop} {i : Nat} {oi : Oper} {fuel : Nat} {listed : Array Bool} {a : Act} {w : World} (hi : ops[i]? = some oi)
    (hs : Region.noSelect ops = true) (hf : Region.free md ops listed i = true) (hr : (Region.ready md ops listed).contains i = true) (l : List Int)
    (hQ : ∀ c a w, Q (.panic c) (a.put oi.dst (.agg (bts l).toArray)) w → Q (.panic c) a w) (hw : Region.wanted oi (yielded ops a.tmps) = true) (x : Operand) (ho : oi.op = .load 26 x)
    (g : Nat) (hx : a.eval x = .pointer (some ⟨g, 0, none⟩)) (hl : l.length = 32) (hr2 : ∀ w, S w → w.rangeAt g 0 (bts l)) (hS : S w)
    (h : wpAnyH Trym.prog md ops Q S fuel (listed.setIfInBounds i true) (a.put oi.dst (.agg (bts l).toArray)) w) : wpAnyH Trym.prog md ops Q S (fuel + 1) listed a w :=
  wpAnyH_take hi hs hf hr hQ (yieldsIf_load_mid hw 26 x ho g 0 hx (bts l) (.array 32 5) hr2 Trym.underlying26 rfl (by simpa using size_bts hl)) hS h

/-- Two arrays of 32 bytes compared: it may be taken first. -/
theorem takeEq {ops : Array Oper} {Q : Exit → Act → World → Prop} {md : Region.Mode} {S : World → Prop} {i : Nat} {oi : Oper} {fuel : Nat} {listed : Array Bool} {a : Act} {w : World} (hi : ops[i]? = some oi)
    (hs : Region.noSelect ops = true) (hf : Region.free md ops listed i = true) (hr : (Region.ready md ops listed).contains i = true) {r : Bool}
    (hQ : ∀ c a w, Q (.panic c) (a.put oi.dst (.bool r)) w → Q (.panic c) a w) (hw : Region.wanted oi (yielded ops a.tmps) = true) (x y : Operand) (ho : oi.op = .binOp .eql 26 x y 26)
    (p q : Array Value) (hx : a.eval x = .agg p) (hy : a.eval y = .agg q) (hq : ∀ w, (Op.equalIn 10000 26 (.agg p) (.agg q)).run Trym.prog w = .ok r w) (hS : S w)
    (h : wpAnyH Trym.prog md ops Q S fuel (listed.setIfInBounds i true) (a.put oi.dst (.bool r)) w) : wpAnyH Trym.prog md ops Q S (fuel + 1) listed a w :=
  wpAnyH_take hi hs hf hr hQ (.inl ⟨hw, fun w _ => by unfold execOp; simp only [ho, hx, hy]; go_simp⟩) hS h

set_option maxHeartbeats 4000000 in
theorem inv_any (a b c : List Int) (ha : IsB a) (hb : IsB b) (hc : IsB c) (w : World) :
    Calls Trym.prog 4 #[.agg (bts a).toArray, .agg (bts b).toArray, .agg (bts c).toArray] w fun e w' => e = .returned (.bool true) ∧ Below w.heap.size w w' := by
  obtain ⟨d, hd⟩ : ∃ d, xorl a b = d := ⟨_, rfl⟩
  have hdB : IsB d := by rw [← hd]; exact ha.xorl hb
  obtain ⟨f, hf⟩ : ∃ f, xorl b c = f := ⟨_, rfl⟩
  have hfB : IsB f := by rw [← hf]; exact hb.xorl hc
  obtain ⟨g, hg⟩ : ∃ g, xorl a c = g := ⟨_, rfl⟩
  have hgB : IsB g := by rw [← hg]; exact ha.xorl hc
  have e1 : Hid (xorl b a = d) := (xorl_comm ha hb).trans hd
  have e2 : Hid (xorl d b = a) := by rw [← hd]; exact xorl_back ha hb
  have e3 : Hid (xorl a d = b) := by rw [← hd]; exact xorl_forth ha hb
  have e0 : Hid (xorl a b = d) := hd
  have ef : Hid (xorl b c = f) := hf
  have eg : Hid (xorl d f = g) := by rw [← hd, ← hf, ← hg]; exact xorl_chain ha hb hc
  have eg' : Hid (xorl a c = g) := hg
  obtain ⟨r, qab, qdz⟩ : ∃ r, (∀ w, (Op.equalIn 10000 26 (.agg (bts a).toArray) (.agg (bts b).toArray)).run Trym.prog w = .ok r w) ∧ (∀ w, (Op.equalIn 10000 26 (.agg (bts d).toArray) (.agg (bts (List.replicate 32 0)).toArray)).run Trym.prog w = .ok r w) :=
    ⟨decide (a = b), fun w => eqBytes_run a b ha.1 hb.1 w, fun w => by rw [eqBytes_run d _ hdB.1 (by simp) w, ← hd]; congr 1; rw [decide_eq_decide]; exact xorl_zero ha hb⟩
  clear hd hf hg
  go_enter Trym.func4, Trym.ntmps4
  go_wp2_with (first | (refine wpList_load_row rfl 26 (.tmp 3) rfl w.heap.size rfl 26 (bts a).toArray (0, 0) (.array 32 5) (three_0 w _ _ _) Trym.underlying26 rfl (size_bts ha.1) ?_) | (refine wpList_load_row rfl 26 (.tmp 4) rfl (w.heap.size + 1) rfl 26 (bts b).toArray (0, 0) (.array 32 5) (three_1 w _ _ _) Trym.underlying26 rfl (size_bts hb.1) ?_))
  refine (dist_to a b d ha hb e0.out _).mono ?_
  rintro e w1 ⟨rfl, hb1⟩
  go_wp2_with (refine wpList_store_row rfl 26 (.tmp 7) (.tmp 11) rfl w1.heap.size (bts d).toArray rfl rfl 26 _ (heap_alloc_new _ _) (size_bts hdB.1) (by rw [bts_size hdB.1]; rfl) (one_bts _) ?_)
  simp only [Act.put]
  generalize hW : World.setRow _ _ _ = W4
  have hS : Four w w1.heap.size a b c d W4 := by rw [← hW]; exact four_start hb1
  clear hW hb1
  have q2 : ∀ w, (Op.equalIn 10000 26 (.agg (bts a).toArray) (.agg (bts a).toArray)).run Trym.prog w = .ok true w := fun w => by simpa using eqBytes_run a a ha.1 ha.1 w
  have q3 : ∀ w, (Op.equalIn 10000 26 (.agg (bts b).toArray) (.agg (bts b).toArray)).run Trym.prog w = .ok true w := fun w => by simpa using eqBytes_run b b hb.1 hb.1 w
  have q4 : ∀ w, (Op.equalIn 10000 26 (.agg (bts g).toArray) (.agg (bts g).toArray)).run Trym.prog w = .ok true w := fun w => by simpa using eqBytes_run g g hgB.1 hgB.1 w
  -- d == distance(b, a)
  have q1 : ∀ w, (Op.equalIn 10000 26 (.agg (bts d).toArray) (.agg (bts d).toArray)).run Trym.prog w = .ok true w := fun w => by simpa using eqBytes_run d d hdB.1 hdB.1 w
  refine wp_region_held_drew (S := Four w w1.heap.size a b c d) (by kernel_rfl) hS.drew (fun hh => ?_)
  refine takeRow (i := 0) rfl (by kernel_rfl) (by kernel_rfl) (by kernel_rfl) b (fun _ _ _ h => h) (by rfl) _ rfl _ rfl hb.1 (fun _ h => h.b) hh ?_
  refine takeRow (i := 1) rfl (by kernel_rfl) (by kernel_rfl) (by kernel_rfl) a (fun _ _ _ h => h) (by rfl) _ rfl _ rfl ha.1 (fun _ h => h.a) hh ?_
  refine takeRow (i := 3) rfl (by kernel_rfl) (by kernel_rfl) (by kernel_rfl) d (fun _ _ _ h => h) (by rfl) _ rfl _ rfl hdB.1 (fun _ h => h.d) hh ?_
  refine wpAnyH_ready (rs := [2]) (by kernel_rfl) (by simp) ?_
  refine AllReadyH.cons (o := _) rfl (fun K hK => ?_) AllReadyH.nil
  go_simp
  refine (dist_to b a d hb ha e1.out _).mono ?_
  rintro e w2 ⟨rfl, hb2⟩
  go_wp2_with fail
  refine hK.out _ _ (hh.later hb2) (fun hh2 => ?_)
  clear hK K hb2 hh hS
  refine wpAnyH_ready (rs := [4]) (by kernel_rfl) (by simp) ?_
  refine AllReadyH.cons (o := _) rfl (fun K hK => ?_) AllReadyH.nil
  go_simp
  refine hK.out _ _ hh2 (fun _ => ?_)
  clear hK K
  refine wpAnyH_done (by kernel_rfl) ?_ _
  go_wp2_with fail
  -- distance(d, b) == a
  refine wp_region_held_drew (S := Four w w1.heap.size a b c d) (by kernel_rfl) hh2.drew (fun hh => ?_)
  refine takeRow (i := 0) rfl (by kernel_rfl) (by kernel_rfl) (by kernel_rfl) d (fun _ _ _ h => h) (by rfl) _ rfl _ rfl hdB.1 (fun _ h => h.d) hh ?_
  refine takeRow (i := 1) rfl (by kernel_rfl) (by kernel_rfl) (by kernel_rfl) b (fun _ _ _ h => h) (by rfl) _ rfl _ rfl hb.1 (fun _ h => h.b) hh ?_
  refine takeRow (i := 3) rfl (by kernel_rfl) (by kernel_rfl) (by kernel_rfl) a (fun _ _ _ h => h) (by rfl) _ rfl _ rfl ha.1 (fun _ h => h.a) hh ?_
  refine wpAnyH_ready (rs := [2]) (by kernel_rfl) (by simp) ?_
  refine AllReadyH.cons (o := _) rfl (fun K hK => ?_) AllReadyH.nil
  go_simp
  refine (dist_to d b a hdB hb e2.out _).mono ?_
  rintro e w3 ⟨rfl, hb3⟩
  go_wp2_with fail
  refine hK.out _ _ (hh.later hb3) (fun hh3 => ?_)
  clear hK K hb3 hh hh2
  refine wpAnyH_ready (rs := [4]) (by kernel_rfl) (by simp) ?_
  refine AllReadyH.cons (o := _) rfl (fun K hK => ?_) AllReadyH.nil
  go_simp
  refine hK.out _ _ hh3 (fun _ => ?_)
  clear hK K
  refine wpAnyH_done (by kernel_rfl) ?_ _
  go_wp2_with fail
  -- distance(a, d) == b
  refine wp_region_held_drew (S := Four w w1.heap.size a b c d) (by kernel_rfl) hh3.drew (fun hh => ?_)
  refine takeRow (i := 0) rfl (by kernel_rfl) (by kernel_rfl) (by kernel_rfl) a (fun _ _ _ h => h) (by rfl) _ rfl _ rfl ha.1 (fun _ h => h.a) hh ?_
  refine takeRow (i := 1) rfl (by kernel_rfl) (by kernel_rfl) (by kernel_rfl) d (fun _ _ _ h => h) (by rfl) _ rfl _ rfl hdB.1 (fun _ h => h.d) hh ?_
  refine takeRow (i := 3) rfl (by kernel_rfl) (by kernel_rfl) (by kernel_rfl) b (fun _ _ _ h => h) (by rfl) _ rfl _ rfl hb.1 (fun _ h => h.b) hh ?_
  refine wpAnyH_ready (rs := [2]) (by kernel_rfl) (by simp) ?_
  refine AllReadyH.cons (o := _) rfl (fun K hK => ?_) AllReadyH.nil
  go_simp
  refine (dist_to a d b ha hdB e3.out _).mono ?_
  rintro e w4 ⟨rfl, hb4⟩
  go_wp2_with fail
  refine hK.out _ _ (hh.later hb4) (fun hh4 => ?_)
  clear hK K hb4 hh hh3
  refine wpAnyH_ready (rs := [4]) (by kernel_rfl) (by simp) ?_
  refine AllReadyH.cons (o := _) rfl (fun K hK => ?_) AllReadyH.nil
  go_simp
  refine hK.out _ _ hh4 (fun _ => ?_)
  clear hK K
  refine wpAnyH_done (by kernel_rfl) ?_ _
  go_wp2_with fail
  -- (d == zero) == (a == b)
  generalize hW : World.alloc w4 _ = W5
  have hz5 : W5.rangeAt w4.heap.size 0 (bts (List.replicate 32 0)) := by rw [← hW]; exact rangeAt_row (by rw [zeros_bts]; exact heap_alloc_new _ _)
  have hh5 : Four w w1.heap.size a b c d W5 := by rw [← hW]; exact hh4.later ((Below.refl _ _).alloc (Nat.le_refl _) _)
  clear hW
  refine wp_region_held_drew (S := fun w' => Four w w1.heap.size a b c d w' ∧ w'.rangeAt w4.heap.size 0 (bts (List.replicate 32 0))) (by kernel_rfl) ⟨hh5.drew, rangeAt_later hz5 (Below.refl _ _).drew⟩ (fun hh => ?_)
  refine takeRow (i := 0) rfl (by kernel_rfl) (by kernel_rfl) (by kernel_rfl) d (fun _ _ _ h => h) (by rfl) _ rfl _ rfl hdB.1 (fun _ h => h.1.d) hh ?_
  refine takeRow (i := 1) rfl (by kernel_rfl) (by kernel_rfl) (by kernel_rfl) (List.replicate 32 0) (fun _ _ _ h => h) (by rfl) _ rfl _ rfl (by simp) (fun _ h => h.2) hh ?_
  refine takeRow (i := 3) rfl (by kernel_rfl) (by kernel_rfl) (by kernel_rfl) a (fun _ _ _ h => h) (by rfl) _ rfl _ rfl ha.1 (fun _ h => h.1.a) hh ?_
  refine takeRow (i := 4) rfl (by kernel_rfl) (by kernel_rfl) (by kernel_rfl) b (fun _ _ _ h => h) (by rfl) _ rfl _ rfl hb.1 (fun _ h => h.1.b) hh ?_
  refine takeEq (i := 2) rfl (by kernel_rfl) (by kernel_rfl) (by kernel_rfl) (fun _ _ _ h => h) (by rfl) _ _ rfl _ _ rfl rfl qdz hh ?_
  refine takeEq (i := 5) rfl (by kernel_rfl) (by kernel_rfl) (by kernel_rfl) (fun _ _ _ h => h) (by rfl) _ _ rfl _ _ rfl rfl qab hh ?_
  refine wpAnyH_ready (rs := [6]) (by kernel_rfl) (by simp) ?_
  refine AllReadyH.cons (o := _) rfl (fun K hK => ?_) AllReadyH.nil
  go_simp
  refine hK.out _ _ hh (fun _ => ?_)
  clear hK K
  refine wpAnyH_done (by kernel_rfl) ?_ _
  have hh6 := hh.1
  clear hh hh5 hz5 qdz qab
  go_wp2_with fail
  -- distance(d, distance(b, c)) == distance(a, c)
  refine wp_region_held_drew (S := Four w w1.heap.size a b c d) (by kernel_rfl) hh6.drew (fun hh => ?_)
  refine takeRow (i := 0) rfl (by kernel_rfl) (by kernel_rfl) (by kernel_rfl) d (fun _ _ _ h => h) (by rfl) _ rfl _ rfl hdB.1 (fun _ h => h.d) hh ?_
  refine takeRow (i := 1) rfl (by kernel_rfl) (by kernel_rfl) (by kernel_rfl) b (fun _ _ _ h => h) (by rfl) _ rfl _ rfl hb.1 (fun _ h => h.b) hh ?_
  refine takeRow (i := 2) rfl (by kernel_rfl) (by kernel_rfl) (by kernel_rfl) c (fun _ _ _ h => h) (by rfl) _ rfl _ rfl hc.1 (fun _ h => h.c) hh ?_
  refine takeRow (i := 5) rfl (by kernel_rfl) (by kernel_rfl) (by kernel_rfl) a (fun _ _ _ h => h) (by rfl) _ rfl _ rfl ha.1 (fun _ h => h.a) hh ?_
  refine takeRow (i := 6) rfl (by kernel_rfl) (by kernel_rfl) (by kernel_rfl) c (fun _ _ _ h => h) (by rfl) _ rfl _ rfl hc.1 (fun _ h => h.c) hh ?_
  refine wpAnyH_ready (rs := [3]) (by kernel_rfl) (by simp) ?_
  refine AllReadyH.cons (o := _) rfl (fun K hK => ?_) AllReadyH.nil
  go_simp
  refine (dist_to b c f hb hc ef.out _).mono ?_
  rintro e w7 ⟨rfl, hb7⟩
  go_wp2_with fail
  refine hK.out _ _ (hh.later hb7) (fun hh7 => ?_)
  clear hK K hb7 hh hh6
  refine wpAnyH_ready (rs := [4]) (by kernel_rfl) (by simp) ?_
  refine AllReadyH.cons (o := _) rfl (fun K hK => ?_) AllReadyH.nil
  go_simp
  refine (dist_to d f g hdB hfB eg.out _).mono ?_
  rintro e w8 ⟨rfl, hb8⟩
  go_wp2_with fail
  refine hK.out _ _ (hh7.later hb8) (fun hh8 => ?_)
  clear hK K hb8
  refine wpAnyH_ready (rs := [7]) (by kernel_rfl) (by simp) ?_
  refine AllReadyH.cons (o := _) rfl (fun K hK => ?_) AllReadyH.nil
  go_simp
  refine (dist_to a c g ha hc eg'.out _).mono ?_
  rintro e w9 ⟨rfl, hb9⟩
  go_wp2_with fail
  refine hK.out _ _ (hh8.later hb9) (fun hh9 => ?_)
  clear hK K hb9
  refine wpAnyH_ready (rs := [8]) (by kernel_rfl) (by simp) ?_
  refine AllReadyH.cons (o := _) rfl (fun K hK => ?_) AllReadyH.nil
  go_simp
  refine hK.out _ _ hh9 (fun _ => ?_)
  clear hK K
  refine wpAnyH_done (by kernel_rfl) ?_ _
  go_wp2_with fail
  go_ret
  exact ⟨rfl, hh9.bel⟩
end Go.Proofs.Qxb6604271aMods
