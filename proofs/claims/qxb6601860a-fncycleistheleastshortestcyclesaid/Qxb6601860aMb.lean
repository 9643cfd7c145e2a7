import Derived.Test.Qxb6601860aMa
namespace Go.Proofs.Qxb6601860a
open Go.RowKit
set_option linter.unusedVariables false

section
variable {N n : Nat} {s : TS} {sv cv : Value} {w : World}

theorem owns_some {w : World} {base : Nat} {e : TypeId} {size : Nat} {v : Value} {m : Nat} {xs : List Value} (h : w.ownsRow base e size v (m + 1) xs) :
    ∃ g cap cur, v = .slice (some ⟨g, 0, none⟩) (m + 1) cap ∧ base ≤ g ∧ w.heap[g]? = some (.cells cur e (0, 0)) ∧ m + 1 ≤ cap ∧ cap ≤ maxLen ∧ cur.size = cap * size ∧ cur.toList.take ((m + 1) * size) = xs := by
  rcases h.2 with ⟨_, h0⟩ | ⟨g, cap, cur, rfl, hg, hh, r1, r2, r3, r4⟩
  · omega
  · exact ⟨g, cap, cur, rfl, hg, hh, r1, r2, r3, r4⟩

theorem cell_owned {w : World} {base : Nat} {e : TypeId} {size : Nat} {g m cap : Nat} {xs : List Value} (h : w.ownsRow base e size (.slice (some ⟨g, 0, none⟩) m cap) m xs) {j : Nat} {u : Value} (hu : xs[j]? = some u) : w.cell? ⟨g, j, none⟩ = some u := by
  have := h.cells (g := g) rfl j u hu
  rwa [show (⟨g, 0, none⟩ : Addr).add j = ⟨g, j, none⟩ by unfold Addr.add; split <;> simp_all] at this

theorem frozen_owned {w : World} {base : Nat} {e : TypeId} {size : Nat} {g m cap : Nat} {xs : List Value} (h : w.ownsRow base e size (.slice (some ⟨g, 0, none⟩) m cap) m xs) (j : Nat) : w.frozen? ⟨g, j, none⟩ = false := h.frozenAt j

/-- The top frame. -/
theorem Mem.top (h : Mem N n s sv cv w) {gs : List Nat} {i : Nat} (hg : s.gray = gs ++ [i]) :
    ∃ g cap, cv = .slice (some ⟨g, 0, none⟩) (gs.length + 1) cap ∧ N + 10 ≤ g ∧ gs.length + 1 ≤ cap ∧ cap ≤ maxLen ∧ w.cell? ⟨g, gs.length * 2, none⟩ = some (.int .i64 (i : Nat)) ∧ w.cell? ⟨g, gs.length * 2 + 1, none⟩ = some (.int .i64 (s.ptr i : Nat)) ∧ w.frozen? ⟨g, gs.length * 2 + 1, none⟩ = false := by
  have hr := h.calR
  rw [hg, List.length_append, frames_app] at hr
  obtain ⟨g, cap, cur, rfl, hb, _, h1, h2, _⟩ := owns_some (m := gs.length) hr
  have hl := frames_length s.ptr gs
  refine ⟨g, cap, rfl, hb, h1, h2, cell_owned hr ?_, cell_owned hr ?_, frozen_owned hr _⟩
  · rw [List.getElem?_append_right (by omega), hl, Nat.sub_self]; rfl
  · rw [List.getElem?_append_right (by omega), hl, Nat.add_sub_cancel_left]; rfl

theorem frames_congr {p q : Nat → Nat} {l : List Nat} (h : ∀ v, v ∈ l → p v = q v) : frames p l = frames q l := by
  unfold frames
  rw [List.flatMap_def, List.flatMap_def, List.map_congr_left (fun v hv => by rw [h v hv])]

/-- 'top.arc++'. -/
theorem Mem.setPtr (h : Mem N n s sv cv w) {gs : List Nat} {i g cap : Nat} (hg : s.gray = gs ++ [i]) (hni : i ∉ gs) (hv : cv = .slice (some ⟨g, 0, none⟩) (gs.length + 1) cap) (x : Nat) :
    Mem N n { s with ptr := upd s.ptr i x } sv cv (w.setCell ⟨g, gs.length * 2 + 1, none⟩ (.int .i64 (x : Nat))) := by
  subst hv
  have hr := h.calR
  have hlt := hr.lt g rfl
  rw [hg, List.length_append, frames_app] at hr
  have hb : ∀ k, k < N + 10 → (w.setCell ⟨g, gs.length * 2 + 1, none⟩ (.int .i64 (x : Nat))).heap[k]? = w.heap[k]? := fun k hk => sc_other w g _ _ (by omega)
  have hst := hr.stored (gs.length * 2 + 1) (.int .i64 (x : Nat))
  have hl := frames_length s.ptr gs
  refine ⟨h.visR.of_block (hb _ (by omega)), (hb _ (by omega)).trans h.visB, h.lowR.of_block (hb _ (by omega)), (hb _ (by omega)).trans h.lowB, h.compR.of_block (hb _ (by omega)), h.onSR.of_block (hb _ (by omega)), (hb _ (by omega)).trans h.onSB,
    (hb _ (by omega)).trans h.stkB, owns_of_block h.stkR (fun k hk => sc_other w g _ _ (fun e => h.apart (k := g) (by rw [← e]; exact hk) rfl)), (hb _ (by omega)).trans h.calB, ?_, (hb _ (by omega)).trans h.cntB, by rw [sc_size]; exact h.size⟩
  show World.ownsRow _ (N + 10) 59 2 _ s.gray.length (frames (upd s.ptr i x) s.gray)
  rw [hg, List.length_append, frames_app, upd_same, frames_congr (p := upd s.ptr i x) (q := s.ptr) (fun v hv => upd_ne _ _ (fun e => hni (by subst e; exact hv)))]
  have e1 : (frames s.ptr gs ++ [Value.int .i64 (i : Nat), .int .i64 (s.ptr i : Nat)]).set (gs.length * 2 + 1) (.int .i64 (x : Nat)) = frames s.ptr gs ++ [Value.int .i64 (i : Nat), .int .i64 (x : Nat)] := by
    rw [List.set_append_right _ _ (by omega), hl, Nat.add_sub_cancel_left]
    rfl
  rw [e1] at hst
  exact hst.1

/-- 'calls = calls[:len(calls)-1]'. -/
theorem Mem.popCal (h : Mem N n s sv cv w) {gs : List Nat} {i g cap : Nat} (hg : s.gray = gs ++ [i]) (hv : cv = .slice (some ⟨g, 0, none⟩) (gs.length + 1) cap) :
    Mem N n { s with gray := gs } sv (.slice (some ⟨g, 0, none⟩) gs.length cap) (w.setCell ⟨N + 8, 0, none⟩ (.slice (some ⟨g, 0, none⟩) gs.length cap)) := by
  have hr := h.calR
  rw [hg, List.length_append, frames_app, hv] at hr
  have ho := ownsRow_pop (frames_length s.ptr gs) hr
  exact h.setCal (l := gs) (ptr := s.ptr) ho

/-- The top of the stack. -/
theorem Mem.topS (h : Mem N n s sv cv w) {pre : List Nat} {i : Nat} (hg : s.stack = pre ++ [i]) :
    ∃ g cap, sv = .slice (some ⟨g, 0, none⟩) (pre.length + 1) cap ∧ pre.length + 1 ≤ cap ∧ cap ≤ maxLen ∧ w.cell? ⟨g, pre.length, none⟩ = some (.int .i64 (i : Nat)) := by
  have hr := h.stkR
  rw [hg, List.length_append, nums_app] at hr
  obtain ⟨g, cap, cur, rfl, hb, _, h1, h2, _⟩ := owns_some (m := pre.length) hr
  refine ⟨g, cap, rfl, h1, h2, cell_owned hr ?_⟩
  rw [List.getElem?_append_right (by rw [nums_length]; omega), nums_length, Nat.sub_self]; rfl

theorem Mem.popStk (h : Mem N n s sv cv w) {pre : List Nat} {i g cap : Nat} (hg : s.stack = pre ++ [i]) (hv : sv = .slice (some ⟨g, 0, none⟩) (pre.length + 1) cap) :
    Mem N n { s with stack := pre } (.slice (some ⟨g, 0, none⟩) pre.length cap) cv (w.setCell ⟨N + 7, 0, none⟩ (.slice (some ⟨g, 0, none⟩) pre.length cap)) := by
  have hr := h.stkR
  rw [hg, List.length_append, nums_app, hv] at hr
  have ho := ownsRow_pop (by rw [nums_length, Nat.mul_one]) hr
  exact h.setStk (l := pre) ho

theorem Mem.setCompF (h : Mem N n s sv cv w) (j x : Nat) (c : Nat → Nat) (hc : ∀ v, c v = if v = j then x else s.comp v) : Mem N n { s with comp := c } sv cv (w.setCell ⟨N + 4, j, none⟩ (.int .i64 (x : Nat))) := by
  have e : c = upd s.comp j x := funext fun v => by rw [hc]; rfl
  rw [e]
  exact h.setComp j x

theorem Mem.setLowF (h : Mem N n s sv cv w) (j x : Nat) : Mem N n { s with low := upd s.low j x } sv cv (w.setCell ⟨N + 2, j, none⟩ (.int .i64 (x : Nat))) := h.setLow j x
end
end Go.Proofs.Qxb6601860a
