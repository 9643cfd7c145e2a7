import Derived.Test.Qxb6601860aTa
import Derived.Test.Qxb6601860aWi
namespace Go.Proofs.Qxb6601860a
open Go.RowKit
set_option linter.unusedVariables false

/-- A list in a block of its own, of which it fills the head. -/
def Fix (w : World) (g cap : Nat) (l : List Nat) : Prop := w.ownsRow g 3 1 (.slice (some ⟨g, 0, none⟩) l.length cap) l.length (nums l)

theorem Fix.of_block {w w' : World} {g cap : Nat} {l : List Nat} (h : Fix w g cap l) (hb : w'.heap[g]? = w.heap[g]?) : Fix w' g cap l :=
  owns_of_block h (fun k hk => by simp [Value.ownBlock] at hk; subst hk; exact hb)
theorem Fix.lt {w : World} {g cap : Nat} {l : List Nat} (h : Fix w g cap l) : g < w.heap.size := (World.ownsRow.lt h g rfl).2
theorem Fix.cell {w : World} {g cap : Nat} {l : List Nat} (h : Fix w g cap l) {k x : Nat} (hx : l[k]? = some x) : w.cell? ⟨g, k, none⟩ = some (.int .i64 (x : Nat)) := cell_owned h (by simp [nums, hx])
theorem Fix.free {w : World} {g cap : Nat} {l : List Nat} (h : Fix w g cap l) (k : Nat) : w.frozen? ⟨g, k, none⟩ = false := frozen_owned h k
theorem Fix.pop {w : World} {g cap x : Nat} {l : List Nat} (h : Fix w g cap (l ++ [x])) : Fix w g cap l := by
  unfold Fix at *
  rw [List.length_append, nums_app] at h
  exact ownsRow_pop (by rw [nums_length, Nat.mul_one]) h
theorem Fix.empty {w : World} {g cap : Nat} {l : List Nat} (h : Fix w g cap l) : Fix w g cap [] := by
  refine ⟨rfl, ?_⟩
  rcases h.2 with ⟨h, _⟩ | ⟨g', c', cur, h1, h2, h3, h4, h5, h6, h7⟩
  · cases h
  · simp at h1
    obtain ⟨rfl, rfl⟩ := h1
    exact .inr ⟨g, cap, cur, rfl, h2, h3, Nat.zero_le _, h5, h6, rfl⟩
theorem Fix.set {w : World} {g cap : Nat} {l : List Nat} (h : Fix w g cap l) (k x : Nat) : Fix (w.setCell ⟨g, k, none⟩ (.int .i64 (x : Nat))) g cap (l.set k x) := by
  have := (World.ownsRow.stored h k (.int .i64 (x : Nat))).1
  unfold Fix
  have e : nums (l.set k x) = (nums l).set k (.int .i64 (x : Nat)) := by simp [nums, List.map_set]
  rw [e, List.length_set]
  exact this
theorem Fix.push {w : World} {g cap y : Nat} {l : List Nat} (h : w.ownsRow g 3 1 (.slice (some ⟨g, 0, none⟩) (l.length + 1) cap) (l.length + 1) (nums l ++ [.int .i64 (y : Nat)])) : Fix w g cap (l ++ [y]) := by
  unfold Fix
  rw [List.length_append, nums_app]
  exact h

/-- The memory of the first pass. -/
structure DM (n : Nat) (w0 : World) (g1 g2 g3 : Nat) (seen : Nat → Bool) (order nodes arcs : List Nat) (wr : World) : Prop where
  seenR : wr.rowIs w0.heap.size 4 n (fun v => .bool (seen v))
  ordR : Fix wr g1 n order
  nodR : Fix wr g2 n nodes
  arcR : Fix wr g3 n arcs
  bel : Below w0.heap.size w0 wr
  l1 : w0.heap.size < g1
  l2 : g1 < g2
  l3 : g2 < g3

section
variable {n : Nat} {w0 wr w' : World} {g1 g2 g3 : Nat} {seen : Nat → Bool} {order nodes arcs : List Nat}

theorem DM.setSeen (h : DM n w0 g1 g2 g3 seen order nodes arcs wr) (x : Nat) : DM n w0 g1 g2 g3 (fun v => decide (v = x) || seen v) order nodes arcs (wr.setCell ⟨w0.heap.size, x, none⟩ (.bool true)) := by
  have := h.l1; have := h.l2; have := h.l3
  refine ⟨(h.seenR.set x _).congr (fun c hc => ?_), h.ordR.of_block (sc_other _ _ _ _ (by omega)), h.nodR.of_block (sc_other _ _ _ _ (by omega)), h.arcR.of_block (sc_other _ _ _ _ (by omega)), h.bel.setCell (Nat.le_refl _) _, h.l1, h.l2, h.l3⟩
  by_cases e : c = x
  · simp [e]
  · simp [e]
theorem DM.setArc (h : DM n w0 g1 g2 g3 seen order nodes arcs wr) (k x : Nat) : DM n w0 g1 g2 g3 seen order nodes (arcs.set k x) (wr.setCell ⟨g3, k, none⟩ (.int .i64 (x : Nat))) := by
  have := h.l1; have := h.l2; have := h.l3
  exact ⟨h.seenR.of_block (sc_other _ _ _ _ (by omega)), h.ordR.of_block (sc_other _ _ _ _ (by omega)), h.nodR.of_block (sc_other _ _ _ _ (by omega)), h.arcR.set k x, h.bel.setCell (by show w0.heap.size ≤ g3; omega) _, h.l1, h.l2, h.l3⟩
theorem DM.pushNod (h : DM n w0 g1 g2 g3 seen order nodes arcs wr) {O : Obj} {y : Nat} (ho : w'.ownsRow g2 3 1 (.slice (some ⟨g2, 0, none⟩) (nodes.length + 1) n) (nodes.length + 1) (nums nodes ++ [.int .i64 (y : Nat)]))
    (hg : (wr.alloc O).grownBy w' (some g2)) : DM n w0 g1 g2 g3 seen order (nodes ++ [y]) arcs w' := by
  have := h.l1; have := h.l2; have := h.l3
  have hb : ∀ k, k < wr.heap.size → k ≠ g2 → w'.heap[k]? = wr.heap[k]? := fun k hk hne => by
    rw [hg.block k (by simp; omega) (by simp; exact hne)]; exact Below.heap_alloc _ _ _ hk
  exact ⟨h.seenR.of_block (hb _ h.seenR.lt (by omega)), h.ordR.of_block (hb _ h.ordR.lt (by omega)), Fix.push ho, h.arcR.of_block (hb _ h.arcR.lt (by omega)),
    (h.bel.alloc h.bel.size _).grown hg (by have := h.bel.size; simp; omega) (fun k hk => by cases hk; omega), h.l1, h.l2, h.l3⟩
theorem DM.pushArc (h : DM n w0 g1 g2 g3 seen order nodes arcs wr) {O : Obj} {y : Nat} (ho : w'.ownsRow g3 3 1 (.slice (some ⟨g3, 0, none⟩) (arcs.length + 1) n) (arcs.length + 1) (nums arcs ++ [.int .i64 (y : Nat)]))
    (hg : (wr.alloc O).grownBy w' (some g3)) : DM n w0 g1 g2 g3 seen order nodes (arcs ++ [y]) w' := by
  have := h.l1; have := h.l2; have := h.l3
  have hb : ∀ k, k < wr.heap.size → k ≠ g3 → w'.heap[k]? = wr.heap[k]? := fun k hk hne => by
    rw [hg.block k (by simp; omega) (by simp; exact hne)]; exact Below.heap_alloc _ _ _ hk
  exact ⟨h.seenR.of_block (hb _ h.seenR.lt (by omega)), h.ordR.of_block (hb _ h.ordR.lt (by omega)), h.nodR.of_block (hb _ h.nodR.lt (by omega)), Fix.push ho,
    (h.bel.alloc h.bel.size _).grown hg (by have := h.bel.size; simp; omega) (fun k hk => by cases hk; omega), h.l1, h.l2, h.l3⟩
theorem DM.pushOrd (h : DM n w0 g1 g2 g3 seen order nodes arcs wr) {O : Obj} {y : Nat} (ho : w'.ownsRow g1 3 1 (.slice (some ⟨g1, 0, none⟩) (order.length + 1) n) (order.length + 1) (nums order ++ [.int .i64 (y : Nat)]))
    (hg : (wr.alloc O).grownBy w' (some g1)) : DM n w0 g1 g2 g3 seen (order ++ [y]) nodes arcs w' := by
  have := h.l1; have := h.l2; have := h.l3
  have hb : ∀ k, k < wr.heap.size → k ≠ g1 → w'.heap[k]? = wr.heap[k]? := fun k hk hne => by
    rw [hg.block k (by simp; omega) (by simp; exact hne)]; exact Below.heap_alloc _ _ _ hk
  exact ⟨h.seenR.of_block (hb _ h.seenR.lt (by omega)), Fix.push ho, h.nodR.of_block (hb _ h.nodR.lt (by omega)), h.arcR.of_block (hb _ h.arcR.lt (by omega)),
    (h.bel.alloc h.bel.size _).grown hg (by have := h.bel.size; simp; omega) (fun k hk => by cases hk; omega), h.l1, h.l2, h.l3⟩
theorem DM.popBoth {v a : Nat} (h : DM n w0 g1 g2 g3 seen order (nodes ++ [v]) (arcs ++ [a]) wr) : DM n w0 g1 g2 g3 seen order nodes arcs wr :=
  { h with nodR := h.nodR.pop, arcR := h.arcR.pop }
end

/-- The pointers of the gray nodes, behind a step of the last one. -/
theorem arcs_bump {gs : List Nat} {ptr : Nat → Nat} {v a : Nat} (hv : v ∉ gs) : ((gs ++ [v]).map ptr).set gs.length (a + 1) = (gs ++ [v]).map (upd ptr v (a + 1)) := by
  rw [List.map_append, List.map_append, List.set_append_right _ _ (by simp)]
  have : gs.map (upd ptr v (a + 1)) = gs.map ptr := List.map_congr_left (fun x hx => upd_ne _ _ (fun e => hv (e ▸ hx)))
  rw [this]
  simp [upd_same]

/-- The memory of the second pass. -/
structure CMem (n : Nat) (w3 : World) (ga gb : Nat) (cm : Nat → Nat) (sz st : List Nat) (wr : World) : Prop where
  compR : wr.rowIs w3.heap.size 3 n (fun x => .int .i64 (((cm x : Nat) : Int) - 1))
  szR : Fix wr ga n sz
  stR : Fix wr gb n st
  bel : Below w3.heap.size w3 wr
  l1 : w3.heap.size < ga
  l2 : ga < gb

section
variable {n : Nat} {w3 wr w' : World} {ga gb : Nat} {cm : Nat → Nat} {sz st : List Nat}
theorem CMem.setComp (h : CMem n w3 ga gb cm sz st wr) (x z : Nat) : CMem n w3 ga gb (upd cm x z) sz st (wr.setCell ⟨w3.heap.size, x, none⟩ (.int .i64 (((z : Nat) : Int) - 1))) := by
  have := h.l1; have := h.l2
  refine ⟨(h.compR.set x _).congr (fun c hc => ?_), h.szR.of_block (sc_other _ _ _ _ (by omega)), h.stR.of_block (sc_other _ _ _ _ (by omega)), h.bel.setCell (Nat.le_refl _) _, h.l1, h.l2⟩
  show (if c = x then Value.int .i64 (((z : Nat) : Int) - 1) else _) = .int .i64 (((upd cm x z c : Nat) : Int) - 1)
  unfold upd; split <;> rfl
theorem CMem.setSz (h : CMem n w3 ga gb cm sz st wr) (k x : Nat) : CMem n w3 ga gb cm (sz.set k x) st (wr.setCell ⟨ga, k, none⟩ (.int .i64 (x : Nat))) := by
  have := h.l1; have := h.l2
  exact ⟨h.compR.of_block (sc_other _ _ _ _ (by omega)), h.szR.set k x, h.stR.of_block (sc_other _ _ _ _ (by omega)), h.bel.setCell (by show w3.heap.size ≤ ga; omega) _, h.l1, h.l2⟩
theorem CMem.pushSz (h : CMem n w3 ga gb cm sz st wr) {O : Obj} {y : Nat} (ho : w'.ownsRow ga 3 1 (.slice (some ⟨ga, 0, none⟩) (sz.length + 1) n) (sz.length + 1) (nums sz ++ [.int .i64 (y : Nat)]))
    (hg : (wr.alloc O).grownBy w' (some ga)) : CMem n w3 ga gb cm (sz ++ [y]) st w' := by
  have := h.l1; have := h.l2
  have hb : ∀ k, k < wr.heap.size → k ≠ ga → w'.heap[k]? = wr.heap[k]? := fun k hk hne => by
    rw [hg.block k (by simp; omega) (by simp; exact hne)]; exact Below.heap_alloc _ _ _ hk
  exact ⟨h.compR.of_block (hb _ h.compR.lt (by omega)), Fix.push ho, h.stR.of_block (hb _ h.stR.lt (by omega)), (h.bel.alloc h.bel.size _).grown hg (by have := h.bel.size; simp; omega) (fun k hk => by cases hk; omega), h.l1, h.l2⟩
theorem CMem.pushSt (h : CMem n w3 ga gb cm sz st wr) {O : Obj} {y : Nat} (ho : w'.ownsRow gb 3 1 (.slice (some ⟨gb, 0, none⟩) (st.length + 1) n) (st.length + 1) (nums st ++ [.int .i64 (y : Nat)]))
    (hg : (wr.alloc O).grownBy w' (some gb)) : CMem n w3 ga gb cm sz (st ++ [y]) w' := by
  have := h.l1; have := h.l2
  have hb : ∀ k, k < wr.heap.size → k ≠ gb → w'.heap[k]? = wr.heap[k]? := fun k hk hne => by
    rw [hg.block k (by simp; omega) (by simp; exact hne)]; exact Below.heap_alloc _ _ _ hk
  exact ⟨h.compR.of_block (hb _ h.compR.lt (by omega)), h.szR.of_block (hb _ h.szR.lt (by omega)), Fix.push ho, (h.bel.alloc h.bel.size _).grown hg (by have := h.bel.size; simp; omega) (fun k hk => by cases hk; omega), h.l1, h.l2⟩
theorem CMem.popSt {x : Nat} (h : CMem n w3 ga gb cm sz (st ++ [x]) wr) : CMem n w3 ga gb cm sz st wr := { h with stR := h.stR.pop }
theorem CMem.emptySt (h : CMem n w3 ga gb cm sz st wr) : CMem n w3 ga gb cm sz [] wr := { h with stR := h.stR.empty }
end

/-- What is left of the gathering. -/
def todoC (n : Nat) (cm : Nat → Nat) (st : List Nat) : Nat := st.length + (n - cnt (fun u => decide (cm u ≠ 0)) n)

theorem todoC_push {n : Nat} {cm : Nat → Nat} {st : List Nat} {y c : Nat} (hy : y < n) (h0 : cm y = 0) : todoC n (upd cm y (c + 1)) (st ++ [y]) = todoC n cm st := by
  unfold todoC
  have hcount := cnt_add (p := fun u => decide (cm u ≠ 0)) (q := fun u => decide (upd cm y (c + 1) u ≠ 0)) (x := y) (by simp [h0]) (by simp [upd_same]) (fun i hi => by simp [upd_ne _ _ hi]) (n := n)
  rw [if_pos hy] at hcount
  have h2 := cnt_le (fun u => decide (upd cm y (c + 1) u ≠ 0)) n
  simp only [List.length_append, List.length_singleton]
  omega

end Go.Proofs.Qxb6601860a
