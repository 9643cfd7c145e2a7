import Derived.Test.Qxb6601860aLa
namespace Go.Proofs.Qxb6601860a
open Go.RowKit
set_option linter.unusedVariables false

/-! ### The memory of Components: ten blocks from N on, and two rows that grow -/
def nums (l : List Nat) : List Value := l.map (fun v : Nat => Value.int .i64 v)
def frames (ptr : Nat → Nat) (l : List Nat) : List Value := l.flatMap (fun v => [Value.int .i64 (v : Nat), Value.int .i64 (ptr v : Nat)])

theorem nums_length (l : List Nat) : (nums l).length = l.length := by simp [nums]
theorem frames_length (ptr : Nat → Nat) : ∀ l : List Nat, (frames ptr l).length = l.length * 2
  | [] => rfl
  | v :: l => by
    have := frames_length ptr l
    simp only [frames, List.flatMap_cons, List.length_append, List.length_cons, List.length_nil] at this ⊢
    omega
theorem frames_app (ptr : Nat → Nat) (l : List Nat) (v : Nat) : frames ptr (l ++ [v]) = frames ptr l ++ [.int .i64 (v : Nat), .int .i64 (ptr v : Nat)] := by simp [frames]
theorem nums_app (l : List Nat) (v : Nat) : nums (l ++ [v]) = nums l ++ [.int .i64 (v : Nat)] := by simp [nums]

structure Mem (N n : Nat) (s : TS) (sv cv : Value) (w : World) : Prop where
  visR : w.rowIs N 3 n (fun v => .int .i64 (s.vis v : Nat))
  visB : w.heap[N + 1]? = some (.cells #[.slice (some ⟨N, 0, none⟩) n n] 22 (0, 0))
  lowR : w.rowIs (N + 2) 3 n (fun v => .int .i64 (s.low v : Nat))
  lowB : w.heap[N + 3]? = some (.cells #[.slice (some ⟨N + 2, 0, none⟩) n n] 22 (0, 0))
  compR : w.rowIs (N + 4) 3 n (fun v => .int .i64 (s.comp v : Nat))
  onSR : w.rowIs (N + 5) 4 n (fun v => .bool (s.onS v))
  onSB : w.heap[N + 6]? = some (.cells #[.slice (some ⟨N + 5, 0, none⟩) n n] 53 (0, 0))
  stkB : w.heap[N + 7]? = some (.cells #[sv] 22 (0, 0))
  stkR : w.ownsRow (N + 10) 3 1 sv s.stack.length (nums s.stack)
  calB : w.heap[N + 8]? = some (.cells #[cv] 57 (0, 0))
  calR : w.ownsRow (N + 10) 59 2 cv s.gray.length (frames s.ptr s.gray)
  cntB : w.heap[N + 9]? = some (.cells #[.int .i64 (s.cnt : Nat)] 3 (0, 0))
  size : N + 10 ≤ w.heap.size

theorem owns_of_block {w w' : World} {base : Nat} {e : TypeId} {size : Nat} {v : Value} {n : Nat} {xs : List Value} (h : w.ownsRow base e size v n xs) (hb : ∀ k, v.ownBlock = some k → w'.heap[k]? = w.heap[k]?) : w'.ownsRow base e size v n xs := by
  refine ⟨h.1, ?_⟩
  rcases h.2 with hn | ⟨g, cap, cur, rfl, hg, hh, rest⟩
  · exact .inl hn
  · exact .inr ⟨g, cap, cur, rfl, hg, (hb g rfl).trans hh, rest⟩

/-- The block that an owned row lies in, with its type. -/
theorem owns_block {w : World} {base : Nat} {e : TypeId} {size : Nat} {v : Value} {n : Nat} {xs : List Value} (h : w.ownsRow base e size v n xs) {k : Nat} (hk : v.ownBlock = some k) : base ≤ k ∧ ∃ cur, w.heap[k]? = some (.cells cur e (0, 0)) := by
  rcases h.2 with ⟨rfl, _⟩ | ⟨g, cap, cur, rfl, hg, hh, rest⟩
  · cases hk
  · simp [Value.ownBlock] at hk
    subst hk
    exact ⟨hg, cur, hh⟩

theorem owns_slice {w : World} {base : Nat} {e : TypeId} {size : Nat} {v : Value} {n : Nat} {xs : List Value} (h : w.ownsRow base e size v n xs) : ∃ a c, v = .slice a n c := by
  rcases h.2 with ⟨rfl, rfl⟩ | ⟨g, cap, cur, rfl, _⟩
  · exact ⟨none, 0, rfl⟩
  · exact ⟨_, _, rfl⟩

theorem Mem.apart {N n : Nat} {s : TS} {sv cv : Value} {w : World} (h : Mem N n s sv cv w) {k : Nat} (h1 : sv.ownBlock = some k) (h2 : cv.ownBlock = some k) : False := by
  obtain ⟨_, c1, e1⟩ := owns_block h.stkR h1
  obtain ⟨_, c2, e2⟩ := owns_block h.calR h2
  rw [e1] at e2
  simp at e2

/-- All blocks of the memory but one stand. -/
theorem Mem.keep {N n : Nat} {s : TS} {sv cv : Value} {w w' : World} (h : Mem N n s sv cv w) (hs : w.heap.size ≤ w'.heap.size) (hb : ∀ k, N ≤ k → k < w.heap.size → w'.heap[k]? = w.heap[k]?) : Mem N n s sv cv w' := by
  have hz := h.size
  have hb' : ∀ k, N ≤ k → k < N + 10 → w'.heap[k]? = w.heap[k]? := fun k h1 h2 => hb k h1 (by omega)
  exact ⟨h.visR.of_block (hb' _ (by omega) (by omega)), (hb' _ (by omega) (by omega)).trans h.visB, h.lowR.of_block (hb' _ (by omega) (by omega)), (hb' _ (by omega) (by omega)).trans h.lowB,
    h.compR.of_block (hb' _ (by omega) (by omega)), h.onSR.of_block (hb' _ (by omega) (by omega)), (hb' _ (by omega) (by omega)).trans h.onSB, (hb' _ (by omega) (by omega)).trans h.stkB,
    owns_of_block h.stkR (fun k hk => by have := h.stkR.lt k hk; exact hb k (by omega) this.2), (hb' _ (by omega) (by omega)).trans h.calB, owns_of_block h.calR (fun k hk => by have := h.calR.lt k hk; exact hb k (by omega) this.2),
    (hb' _ (by omega) (by omega)).trans h.cntB, by omega⟩

theorem Mem.alloc {N n : Nat} {s : TS} {sv cv : Value} {w : World} (h : Mem N n s sv cv w) (o : Obj) : Mem N n s sv cv (w.alloc o) :=
  h.keep (by simp) (fun k _ hk => Below.heap_alloc _ _ _ hk)
theorem Mem.drewN {N n : Nat} {s : TS} {sv cv : Value} {w : World} (h : Mem N n s sv cv w) (m : Nat) : Mem N n s sv cv (w.drewN m) :=
  h.keep (Nat.le_refl _) (fun k _ hk => rfl)
theorem Mem.drew {N n : Nat} {s : TS} {sv cv : Value} {w : World} (h : Mem N n s sv cv w) : Mem N n s sv cv w.drew :=
  h.keep (Nat.le_refl _) (fun k _ hk => rfl)

section
variable {N n : Nat} {s : TS} {sv cv : Value} {w : World}

theorem sc_other (w : World) (g i : Nat) (v : Value) {k : Nat} (h : k ≠ g) : (w.setCell ⟨g, i, none⟩ v).heap[k]? = w.heap[k]? := Below.heap_setCell _ _ _ _ h
theorem sc_size (w : World) (a : Addr) (v : Value) : (w.setCell a v).heap.size = w.heap.size := by simp [World.setCell]

/-- A store into a block below N + 10: the two rows that grow stand. -/
theorem Mem.rows (h : Mem N n s sv cv w) {g : Nat} (hg : g < N + 10) (i : Nat) (v : Value) : (w.setCell ⟨g, i, none⟩ v).ownsRow (N + 10) 3 1 sv s.stack.length (nums s.stack) ∧ (w.setCell ⟨g, i, none⟩ v).ownsRow (N + 10) 59 2 cv s.gray.length (frames s.ptr s.gray) :=
  ⟨owns_of_block h.stkR (fun k hk => sc_other w g i v (by have := h.stkR.lt k hk; omega)), owns_of_block h.calR (fun k hk => sc_other w g i v (by have := h.calR.lt k hk; omega))⟩

theorem Mem.setVis (h : Mem N n s sv cv w) (j x : Nat) : Mem N n { s with vis := upd s.vis j x } sv cv (w.setCell ⟨N, j, none⟩ (.int .i64 (x : Nat))) := by
  have hr := h.rows (g := N) (by omega) j (.int .i64 (x : Nat))
  refine ⟨(h.visR.set j _).congr (fun v _ => ?_), ?_, h.lowR.setOther (by show N + 2 ≠ N; omega) _, ?_, h.compR.setOther (by show N + 4 ≠ N; omega) _, h.onSR.setOther (by show N + 5 ≠ N; omega) _, ?_, ?_, hr.1, ?_, hr.2, ?_, by rw [sc_size]; exact h.size⟩
  · show (if v = j then Value.int .i64 (x : Nat) else _) = .int .i64 ((upd s.vis j x v : Nat))
    unfold upd; split <;> rfl
  · rw [sc_other _ _ _ _ (by omega)]; exact h.visB
  · rw [sc_other _ _ _ _ (by omega)]; exact h.lowB
  · rw [sc_other _ _ _ _ (by omega)]; exact h.onSB
  · rw [sc_other _ _ _ _ (by omega)]; exact h.stkB
  · rw [sc_other _ _ _ _ (by omega)]; exact h.calB
  · rw [sc_other _ _ _ _ (by omega)]; exact h.cntB

theorem Mem.setLow (h : Mem N n s sv cv w) (j x : Nat) : Mem N n { s with low := upd s.low j x } sv cv (w.setCell ⟨N + 2, j, none⟩ (.int .i64 (x : Nat))) := by
  have hr := h.rows (g := N + 2) (by omega) j (.int .i64 (x : Nat))
  refine ⟨h.visR.setOther (by show N ≠ N + 2; omega) _, ?_, (h.lowR.set j _).congr (fun v _ => ?_), ?_, h.compR.setOther (by show N + 4 ≠ N + 2; omega) _, h.onSR.setOther (by show N + 5 ≠ N + 2; omega) _, ?_, ?_, hr.1, ?_, hr.2, ?_, by rw [sc_size]; exact h.size⟩
  · rw [sc_other _ _ _ _ (by omega)]; exact h.visB
  · show (if v = j then Value.int .i64 (x : Nat) else _) = .int .i64 ((upd s.low j x v : Nat))
    unfold upd; split <;> rfl
  · rw [sc_other _ _ _ _ (by omega)]; exact h.lowB
  · rw [sc_other _ _ _ _ (by omega)]; exact h.onSB
  · rw [sc_other _ _ _ _ (by omega)]; exact h.stkB
  · rw [sc_other _ _ _ _ (by omega)]; exact h.calB
  · rw [sc_other _ _ _ _ (by omega)]; exact h.cntB

theorem Mem.setComp (h : Mem N n s sv cv w) (j x : Nat) : Mem N n { s with comp := upd s.comp j x } sv cv (w.setCell ⟨N + 4, j, none⟩ (.int .i64 (x : Nat))) := by
  have hr := h.rows (g := N + 4) (by omega) j (.int .i64 (x : Nat))
  refine ⟨h.visR.setOther (by show N ≠ N + 4; omega) _, ?_, h.lowR.setOther (by show N + 2 ≠ N + 4; omega) _, ?_, (h.compR.set j _).congr (fun v _ => ?_), h.onSR.setOther (by show N + 5 ≠ N + 4; omega) _, ?_, ?_, hr.1, ?_, hr.2, ?_, by rw [sc_size]; exact h.size⟩
  · rw [sc_other _ _ _ _ (by omega)]; exact h.visB
  · rw [sc_other _ _ _ _ (by omega)]; exact h.lowB
  · show (if v = j then Value.int .i64 (x : Nat) else _) = .int .i64 ((upd s.comp j x v : Nat))
    unfold upd; split <;> rfl
  · rw [sc_other _ _ _ _ (by omega)]; exact h.onSB
  · rw [sc_other _ _ _ _ (by omega)]; exact h.stkB
  · rw [sc_other _ _ _ _ (by omega)]; exact h.calB
  · rw [sc_other _ _ _ _ (by omega)]; exact h.cntB

theorem Mem.setOnS (h : Mem N n s sv cv w) (j : Nat) (x : Bool) (o : Nat → Bool) (ho : ∀ v, o v = if v = j then x else s.onS v) : Mem N n { s with onS := o } sv cv (w.setCell ⟨N + 5, j, none⟩ (.bool x)) := by
  have hr := h.rows (g := N + 5) (by omega) j (.bool x)
  refine ⟨h.visR.setOther (by show N ≠ N + 5; omega) _, ?_, h.lowR.setOther (by show N + 2 ≠ N + 5; omega) _, ?_, h.compR.setOther (by show N + 4 ≠ N + 5; omega) _, (h.onSR.set j _).congr (fun v _ => ?_), ?_, ?_, hr.1, ?_, hr.2, ?_, by rw [sc_size]; exact h.size⟩
  · rw [sc_other _ _ _ _ (by omega)]; exact h.visB
  · rw [sc_other _ _ _ _ (by omega)]; exact h.lowB
  · show (if v = j then Value.bool x else _) = .bool (o v)
    rw [ho]; split <;> rfl
  · rw [sc_other _ _ _ _ (by omega)]; exact h.onSB
  · rw [sc_other _ _ _ _ (by omega)]; exact h.stkB
  · rw [sc_other _ _ _ _ (by omega)]; exact h.calB
  · rw [sc_other _ _ _ _ (by omega)]; exact h.cntB

theorem Mem.setCnt (h : Mem N n s sv cv w) (x : Nat) : Mem N n { s with cnt := x } sv cv (w.setCell ⟨N + 9, 0, none⟩ (.int .i64 (x : Nat))) := by
  have hr := h.rows (g := N + 9) (by omega) 0 (.int .i64 (x : Nat))
  refine ⟨h.visR.setOther (by show N ≠ N + 9; omega) _, ?_, h.lowR.setOther (by show N + 2 ≠ N + 9; omega) _, ?_, h.compR.setOther (by show N + 4 ≠ N + 9; omega) _, h.onSR.setOther (by show N + 5 ≠ N + 9; omega) _, ?_, ?_, hr.1, ?_, hr.2, one_setCell h.cntB, by rw [sc_size]; exact h.size⟩
  · rw [sc_other _ _ _ _ (by omega)]; exact h.visB
  · rw [sc_other _ _ _ _ (by omega)]; exact h.lowB
  · rw [sc_other _ _ _ _ (by omega)]; exact h.onSB
  · rw [sc_other _ _ _ _ (by omega)]; exact h.stkB
  · rw [sc_other _ _ _ _ (by omega)]; exact h.calB

/-- The stack's header is written: another slice, of another list. -/
theorem Mem.setStk (h : Mem N n s sv cv w) {sv' : Value} {l : List Nat} (ho : w.ownsRow (N + 10) 3 1 sv' l.length (nums l)) : Mem N n { s with stack := l } sv' cv (w.setCell ⟨N + 7, 0, none⟩ sv') := by
  have hr := h.rows (g := N + 7) (by omega) 0 sv'
  refine ⟨h.visR.setOther (by show N ≠ N + 7; omega) _, ?_, h.lowR.setOther (by show N + 2 ≠ N + 7; omega) _, ?_, h.compR.setOther (by show N + 4 ≠ N + 7; omega) _, h.onSR.setOther (by show N + 5 ≠ N + 7; omega) _, ?_, one_setCell h.stkB, owns_of_block ho (fun k hk => sc_other w _ _ _ (by have := ho.lt k hk; omega)), ?_, hr.2, ?_, by rw [sc_size]; exact h.size⟩
  · rw [sc_other _ _ _ _ (by omega)]; exact h.visB
  · rw [sc_other _ _ _ _ (by omega)]; exact h.lowB
  · rw [sc_other _ _ _ _ (by omega)]; exact h.onSB
  · rw [sc_other _ _ _ _ (by omega)]; exact h.calB
  · rw [sc_other _ _ _ _ (by omega)]; exact h.cntB

theorem Mem.setCal (h : Mem N n s sv cv w) {cv' : Value} {l : List Nat} {ptr : Nat → Nat} (ho : w.ownsRow (N + 10) 59 2 cv' l.length (frames ptr l)) : Mem N n { s with gray := l, ptr := ptr } sv cv' (w.setCell ⟨N + 8, 0, none⟩ cv') := by
  have hr := h.rows (g := N + 8) (by omega) 0 cv'
  refine ⟨h.visR.setOther (by show N ≠ N + 8; omega) _, ?_, h.lowR.setOther (by show N + 2 ≠ N + 8; omega) _, ?_, h.compR.setOther (by show N + 4 ≠ N + 8; omega) _, h.onSR.setOther (by show N + 5 ≠ N + 8; omega) _, ?_, ?_, hr.1, one_setCell h.calB, owns_of_block ho (fun k hk => sc_other w _ _ _ (by have := ho.lt k hk; omega)), ?_, by rw [sc_size]; exact h.size⟩
  · rw [sc_other _ _ _ _ (by omega)]; exact h.visB
  · rw [sc_other _ _ _ _ (by omega)]; exact h.lowB
  · rw [sc_other _ _ _ _ (by omega)]; exact h.onSB
  · rw [sc_other _ _ _ _ (by omega)]; exact h.stkB
  · rw [sc_other _ _ _ _ (by omega)]; exact h.cntB

theorem Mem.grownS (h : Mem N n s sv cv w) {w' : World} (hg : w.grownBy w' sv.ownBlock) : ∀ k, k < N + 10 → w'.heap[k]? = w.heap[k]? := fun k hk => by
  have hz := h.size
  exact hg.block k (by omega) (fun e => by have := h.stkR.lt k e.symm; omega)
theorem Mem.grownC (h : Mem N n s sv cv w) {w' : World} (hg : w.grownBy w' cv.ownBlock) : ∀ k, k < N + 10 → w'.heap[k]? = w.heap[k]? := fun k hk => by
  have hz := h.size
  exact hg.block k (by omega) (fun e => by have := h.calR.lt k e.symm; omega)

/-- An append onto the stack, and its header written. -/
theorem Mem.pushStk (h : Mem N n s sv cv w) {w' : World} {sv' : Value} {l : List Nat} (hg : w.grownBy w' sv.ownBlock) (ho' : w'.ownsRow (N + 10) 3 1 sv' l.length (nums l)) : Mem N n { s with stack := l } sv' cv (w'.setCell ⟨N + 7, 0, none⟩ sv') := by
  have hz := h.size
  have hb := h.grownS hg
  have hc : w'.ownsRow (N + 10) 59 2 cv s.gray.length (frames s.ptr s.gray) := owns_of_block h.calR (fun k hk => hg.block k (h.calR.lt k hk).2 (fun e => h.apart e.symm hk))
  have hs' := hg.size
  have ho : ∀ g i (v : Value) k, k ≠ g → (w'.setCell ⟨g, i, none⟩ v).heap[k]? = w'.heap[k]? := fun g i v k hk => sc_other w' g i v hk
  refine ⟨(h.visR.of_block (hb _ (by omega))).setOther (by show N ≠ N + 7; omega) _, ?_, (h.lowR.of_block (hb _ (by omega))).setOther (by show N + 2 ≠ N + 7; omega) _, ?_, (h.compR.of_block (hb _ (by omega))).setOther (by show N + 4 ≠ N + 7; omega) _, (h.onSR.of_block (hb _ (by omega))).setOther (by show N + 5 ≠ N + 7; omega) _, ?_,
    one_setCell ((hb _ (by omega)).trans h.stkB), owns_of_block ho' (fun k hk => ho _ _ _ _ (by have := ho'.lt k hk; omega)), ?_, owns_of_block hc (fun k hk => ho _ _ _ _ (by have := hc.lt k hk; omega)), ?_, by rw [sc_size]; omega⟩
  · rw [ho _ _ _ _ (by omega)]; exact (hb _ (by omega)).trans h.visB
  · rw [ho _ _ _ _ (by omega)]; exact (hb _ (by omega)).trans h.lowB
  · rw [ho _ _ _ _ (by omega)]; exact (hb _ (by omega)).trans h.onSB
  · rw [ho _ _ _ _ (by omega)]; exact (hb _ (by omega)).trans h.calB
  · rw [ho _ _ _ _ (by omega)]; exact (hb _ (by omega)).trans h.cntB

/-- An append onto the calls, and its header written. -/
theorem Mem.pushCal (h : Mem N n s sv cv w) {w' : World} {cv' : Value} {l : List Nat} (hg : w.grownBy w' cv.ownBlock) (ho' : w'.ownsRow (N + 10) 59 2 cv' l.length (frames s.ptr l)) : Mem N n { s with gray := l } sv cv' (w'.setCell ⟨N + 8, 0, none⟩ cv') := by
  have hz := h.size
  have hb := h.grownC hg
  have hc : w'.ownsRow (N + 10) 3 1 sv s.stack.length (nums s.stack) := owns_of_block h.stkR (fun k hk => hg.block k (h.stkR.lt k hk).2 (fun e => h.apart hk e.symm))
  have hs' := hg.size
  have ho : ∀ g i (v : Value) k, k ≠ g → (w'.setCell ⟨g, i, none⟩ v).heap[k]? = w'.heap[k]? := fun g i v k hk => sc_other w' g i v hk
  refine ⟨(h.visR.of_block (hb _ (by omega))).setOther (by show N ≠ N + 8; omega) _, ?_, (h.lowR.of_block (hb _ (by omega))).setOther (by show N + 2 ≠ N + 8; omega) _, ?_, (h.compR.of_block (hb _ (by omega))).setOther (by show N + 4 ≠ N + 8; omega) _, (h.onSR.of_block (hb _ (by omega))).setOther (by show N + 5 ≠ N + 8; omega) _, ?_, ?_,
    owns_of_block hc (fun k hk => ho _ _ _ _ (by have := hc.lt k hk; omega)), one_setCell ((hb _ (by omega)).trans h.calB), owns_of_block ho' (fun k hk => ho _ _ _ _ (by have := ho'.lt k hk; omega)), ?_, by rw [sc_size]; omega⟩
  · rw [ho _ _ _ _ (by omega)]; exact (hb _ (by omega)).trans h.visB
  · rw [ho _ _ _ _ (by omega)]; exact (hb _ (by omega)).trans h.lowB
  · rw [ho _ _ _ _ (by omega)]; exact (hb _ (by omega)).trans h.onSB
  · rw [ho _ _ _ _ (by omega)]; exact (hb _ (by omega)).trans h.stkB
  · rw [ho _ _ _ _ (by omega)]; exact (hb _ (by omega)).trans h.cntB

end
end Go.Proofs.Qxb6601860a
