import Derived.Test.Qxb6601860aMb
import Derived.ArgAppend
namespace Go.Proofs.Qxb6601860a
open Go.RowKit
set_option linter.unusedVariables false

/-- A queue: it may begin in the midst of its block. -/
def Queue (w : World) (B : Nat) (v : Value) (q : List Nat) : Prop :=
  ∃ g off cap, v = .slice (some ⟨g, off, none⟩) q.length cap ∧ B ≤ g ∧ g < w.heap.size ∧ q.length ≤ cap ∧ cap ≤ maxLen ∧
    (∀ k, k < cap → (w.cell? ⟨g, off + k, none⟩).isSome = true ∧ w.frozen? ⟨g, off + k, none⟩ = false) ∧ ∀ k x, q[k]? = some x → w.cell? ⟨g, off + k, none⟩ = some (.int .i64 (x : Nat))

theorem setCells_one (w : World) (b o : Nat) (u : Value) : w.setCells b o [u] = w.setCell ⟨b, o, none⟩ u := rfl

theorem Queue.of_block {w w' : World} {B : Nat} {v : Value} {q : List Nat} (h : Queue w B v q) (hs : w.heap.size ≤ w'.heap.size) (hb : ∀ k, B ≤ k → k < w.heap.size → w'.heap[k]? = w.heap[k]?) : Queue w' B v q := by
  obtain ⟨g, off, cap, rfl, h1, h2, h3, h4, h5, h6⟩ := h
  have e := hb g h1 h2
  refine ⟨g, off, cap, rfl, h1, by omega, h3, h4, fun k hk => ?_, fun k x hx => ?_⟩
  · rw [World.cell?_of_block (w := w) (w' := w') (a := ⟨g, off + k, none⟩) e, World.frozen?_of_block (w := w) (w' := w') (a := ⟨g, off + k, none⟩) e]
    exact h5 k hk
  · rw [World.cell?_of_block (w := w) (w' := w') (a := ⟨g, off + k, none⟩) e]
    exact h6 k x hx

/-- queue[1:] -/
theorem Queue.rest {w : World} {B g off cap x : Nat} {q : List Nat} (h : Queue w B (.slice (some ⟨g, off, none⟩) (q.length + 1) cap) (x :: q)) :
    Queue w B (.slice (if cap = 1 then some ⟨g, off, none⟩ else some ⟨g, off + 1, none⟩) q.length (cap - 1)) q := by
  obtain ⟨g', off', cap', e, h1, h2, h3, h4, h5, h6⟩ := h
  simp at e
  obtain ⟨⟨rfl, rfl⟩, rfl⟩ := e
  by_cases hc : cap = 1
  · rw [if_pos hc]
    have hq : q = [] := by simp at h3; exact List.eq_nil_of_length_eq_zero (by omega)
    subst hq
    exact ⟨g, off, cap - 1, rfl, h1, h2, by simp, by omega, fun k hk => h5 k (by omega), fun k x hx => by simp at hx⟩
  · rw [if_neg hc]
    refine ⟨g, off + 1, cap - 1, rfl, h1, h2, by simp at h3; omega, by omega, fun k hk => ?_, fun k x hx => ?_⟩
    · have := h5 (1 + k) (by omega)
      rwa [← Nat.add_assoc] at this
    · have := h6 (k + 1) x hx
      rwa [show off + (k + 1) = off + 1 + k by omega] at this

/-- append, with room. -/
theorem Queue.room {w : World} {B g off cap : Nat} {q : List Nat} (h : Queue w B (.slice (some ⟨g, off, none⟩) q.length cap) q) (hc : q.length + 1 ≤ cap) (y : Nat) :
    Queue (w.setCells g (off + q.length * 1) [.int .i64 (y : Nat)]) B (.slice (some ⟨g, off, none⟩) (q.length + 1) cap) (q ++ [y]) := by
  obtain ⟨g', off', cap', e, h1, h2, h3, h4, h5, h6⟩ := h
  simp at e
  obtain ⟨⟨rfl, rfl⟩, rfl⟩ := e
  rw [Nat.mul_one]
  have hin := World.cell?_setCells_in g [.int .i64 (y : Nat)] (off + q.length) w (fun j hj => by
    have : j = 0 := by simp at hj; exact hj
    subst this
    exact (h5 q.length (by omega)).1)
  have hin0 := hin 0 (by simp)
  have hout : ∀ k, k ≠ q.length → (w.setCells g (off + q.length) [.int .i64 (y : Nat)]).cell? ⟨g, off + k, none⟩ = w.cell? ⟨g, off + k, none⟩ := fun k hk =>
    World.cell?_setCells_out g _ _ w ⟨g, off + k, none⟩ (fun _ _ => by simp; omega)
  refine ⟨g, off, cap, by simp, h1, by rw [setCells_one, sc_size]; exact h2, by simp; omega, h4, fun k hk => ?_, fun k x hx => ?_⟩
  · rw [World.frozen?_setCells]
    refine ⟨?_, (h5 k hk).2⟩
    by_cases e : k = q.length
    · subst e; rw [Nat.add_zero] at hin0; rw [hin0]; rfl
    · rw [hout k e]; exact (h5 k hk).1
  · by_cases e : k = q.length
    · subst e
      simp at hx
      subst hx
      rw [Nat.add_zero] at hin0; rw [hin0]; rfl
    · rw [hout k e]
      have hkl : k < q.length := by
        have := (List.getElem?_eq_some_iff.1 hx).1
        simp at this; omega
      rw [List.getElem?_append_left hkl] at hx
      exact h6 k x hx

/-- A row of one's own is a queue. -/
theorem Queue.of_owns {w : World} {base B : Nat} {v : Value} {q : List Nat} {m : Nat} (hm : q.length = m + 1) (h : w.ownsRow base 3 1 v q.length (nums q)) (hB : B ≤ base) : Queue w B v q := by
  have h' := h
  rw [hm] at h'
  obtain ⟨g, cap, cur, rfl, hg, hh, h1, h2, h3, h4⟩ := owns_some h'
  have hlt := lt_of_block hh
  rw [← hm] at h' h1
  refine ⟨g, 0, cap, by rw [hm], by omega, hlt, h1, h2, fun k hk => ?_, fun k x hx => ?_⟩
  · rw [Nat.zero_add]
    refine ⟨?_, ?_⟩
    · simp [World.cell?, hh]; omega
    · simp [World.frozen?, hh]
  · rw [Nat.zero_add]
    refine cell_owned h' ?_
    simp [nums, hx]

theorem Queue.one (w : World) (x : Nat) : Queue (w.alloc (.cells #[.int .i64 (x : Int)] 3)) w.heap.size (.slice (some ⟨w.heap.size, 0, none⟩) 1 1) [x] := by
  have hh : (w.alloc (.cells #[.int .i64 (x : Int)] 3)).heap[w.heap.size]? = some (.cells #[.int .i64 (x : Int)] 3) := heap_alloc_new w _
  refine ⟨w.heap.size, 0, 1, rfl, Nat.le_refl _, by simp, by simp, by unfold maxLen; omega, fun k hk => ?_, fun k y hy => ?_⟩
  · obtain rfl : k = 0 := by omega
    exact ⟨by rw [cell_of_one hh]; rfl, free_of_one hh⟩
  · obtain rfl : k = 0 := by
      have := (List.getElem?_eq_some_iff.1 hy).1
      simpa using this
    simp at hy
    subst hy
    exact cell_of_one hh

/-- The memory of the search: the parents' row and the queue behind it. -/
structure BM (n : Nat) (wB : World) (par : Nat → Nat) (v : Value) (q : List Nat) (wr : World) : Prop where
  row : wr.rowIs wB.heap.size 3 n (fun v => .int .i64 ((par v : Nat) : Int))
  que : Queue wr (wB.heap.size + 1) v q
  bel : Below wB.heap.size wB wr

theorem BM.of_heap {n : Nat} {wB : World} {par : Nat → Nat} {v : Value} {q : List Nat} {wr w' : World} (h : BM n wB par v q wr) (hw : w'.heap = wr.heap) (hb : Below wB.heap.size wB w') : BM n wB par v q w' :=
  ⟨h.row.of_block (by rw [hw]), h.que.of_block (by rw [hw]; exact Nat.le_refl _) (fun k _ _ => by rw [hw]), hb⟩

theorem BM.set {n : Nat} {wB : World} {par : Nat → Nat} {v : Value} {q : List Nat} {wr : World} (h : BM n wB par v q wr) (y x : Nat) :
    BM n wB (upd par y x) v q (wr.setCell ⟨wB.heap.size, y, none⟩ (.int .i64 (x : Nat))) :=
  ⟨(h.row.set y _).congr (fun c _ => by show (if c = y then Value.int .i64 (x : Nat) else _) = .int .i64 ((upd par y x c : Nat)); unfold upd; split <;> rfl),
    h.que.of_block (by rw [sc_size]; exact Nat.le_refl _) (fun k hk _ => sc_other _ _ _ _ (by omega)), h.bel.setCell (Nat.le_refl _) _⟩

theorem BM.alloc {n : Nat} {wB : World} {par : Nat → Nat} {v : Value} {q : List Nat} {wr : World} (h : BM n wB par v q wr) (o : Obj) : BM n wB par v q (wr.alloc o) :=
  ⟨h.row.of_block (Below.heap_alloc _ _ _ h.row.lt), h.que.of_block (by simp) (fun k _ hk => Below.heap_alloc _ _ _ hk), h.bel.alloc h.bel.size _⟩

theorem BM.room {n : Nat} {wB : World} {par : Nat → Nat} {g off cap : Nat} {q : List Nat} {wr : World} (h : BM n wB par (.slice (some ⟨g, off, none⟩) q.length cap) q wr) (hc : q.length + 1 ≤ cap) (y : Nat) :
    BM n wB par (.slice (some ⟨g, off, none⟩) (q.length + 1) cap) (q ++ [y]) (wr.setCells g (off + q.length * 1) [.int .i64 (y : Nat)]) := by
  have hg : wB.heap.size + 1 ≤ g := by
    obtain ⟨g', off', cap', e, h1, _⟩ := h.que
    simp at e
    rw [e.1.1]; exact h1
  exact ⟨h.row.of_block (by rw [setCells_one]; exact sc_other _ _ _ _ (by omega)), h.que.room hc y, by rw [setCells_one]; exact h.bel.setCell (by show wB.heap.size ≤ g; omega) _⟩

theorem BM.grow {n : Nat} {wB : World} {par : Nat → Nat} {v v' : Value} {q : List Nat} {wr w' : World} (h : BM n wB par v q wr) {y : Nat} (ho : w'.ownsRow wr.heap.size 3 1 v' (q.length + 1) (nums q ++ [.int .i64 (y : Nat)]))
    (hg : wr.grownBy w' none) : BM n wB par v' (q ++ [y]) w' := by
  have hl := h.row.lt
  refine ⟨h.row.of_block (hg.block _ hl (by simp)), ?_, h.bel.grown hg h.bel.size (fun k hk => by cases hk)⟩
  refine Queue.of_owns (m := q.length) (by simp) (base := wr.heap.size) ?_ (by omega)
  rw [nums_app, List.length_append]
  exact ho

end Go.Proofs.Qxb6601860a
