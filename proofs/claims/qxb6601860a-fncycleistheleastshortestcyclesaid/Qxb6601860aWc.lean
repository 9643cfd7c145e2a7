import Derived.Test.Qxb6601860aWa
namespace Go.Proofs.Qxb6601860a
open Go.RowKit
set_option linter.unusedVariables false

theorem Try.size3 : (Try.prog.info? 3).map (·.size) = some 1 := by kernel_rfl
theorem nil22 (w : World) (a : Option Addr) (n c n' c' : Nat) : (binOp .eql 22 (.slice a n c) (.slice none n' c')).run Try.prog w = .ok (.bool a.isNone) w := Lib.run_eql_slice_nil (P := Try.prog) w 22 3 a n c n' c' Try.underlying22
theorem nil32 (w : World) (a : Option Addr) (n c n' c' : Nat) : (binOp .eql 32 (.slice a n c) (.slice none n' c')).run Try.prog w = .ok (.bool a.isNone) w := Lib.run_eql_slice_nil (P := Try.prog) w 32 22 a n c n' c' Try.underlying32

/-- A clone of a row. -/
def ClonePost (w : World) (a : Option Addr) (n : Nat) (f : Nat → Int) (e : Ending) (w' : World) : Prop :=
  ∃ a' c', e = .returned (.slice a' n c') ∧ a'.isNone = a.isNone ∧ (∀ x, a' = some x → x.block = w.heap.size) ∧ Row .i64 w' a' n f ∧ Below w.heap.size w w'

set_option maxHeartbeats 400000 in
theorem cloneInts_nil (w : World) (c : Nat) : Calls Try.prog 9 #[.slice none 0 c] w fun e w' => e = .returned (.slice none 0 0) ∧ w' = w := by
  have hn := nil22
  go_enter Try.func9, Try.ntmps9
  go_wp2
  go_ret
  exact ⟨rfl, rfl⟩

set_option maxHeartbeats 400000 in
theorem cloneInts_some (w : World) (x : Addr) (n c : Nat) (f : Nat → Int) (hnl : n ≤ 1048576) (hR : Row .i64 w (some x) n f) :
    Calls Try.prog 9 #[.slice (some x) n c] w (ClonePost w (some x) n f) := by
  have hn := nil22
  have hmk := run_make_row' (P := Try.prog) 22 3 (.int .i64 0) 8 Try.underlying22 Try.info3 rfl .i64 .i64 n (by omega) (by omega)
  have hbA : ∀ O, Below w.heap.size w (w.alloc O) := fun O => (Below.refl _ _).alloc (Nat.le_refl _) _
  obtain ⟨w1, hcp, hrow1, hon1⟩ := run_copy_full (P := Try.prog) 22 22 3 3 Try.underlying22 Try.size3 w.heap.size n n (some x) c 3 _ (World.rowIs_made w (.int .i64 0) n 3) .i64 f (hR.below (hbA _))
  have H1 : Hid (Row .i64 w1 (some ⟨w.heap.size, 0, none⟩) n f ∧ Below w.heap.size w w1) := ⟨Row.of_rowIs hrow1, hon1.below (hbA _) (Nat.le_refl _)⟩
  clear hrow1 hon1 hR
  go_enter Try.func9, Try.ntmps9
  go_wp2
  go_ret
  exact ⟨_, _, rfl, rfl, fun y hy => by cases hy; rfl, H1.out⟩

theorem cloneInts_any (w : World) (a : Option Addr) (n c : Nat) (f : Nat → Int) (hnl : n ≤ 1048576) (ha : a.isNone = true → n = 0) (hR : Row .i64 w a n f) : Calls Try.prog 9 #[.slice a n c] w (ClonePost w a n f) := by
  cases a with
  | none =>
    obtain rfl := ha rfl
    refine (cloneInts_nil w c).mono ?_
    rintro e w' ⟨rfl, rfl⟩
    exact ⟨none, 0, rfl, rfl, fun x hx => (by cases hx), fun i hi => by omega, Below.refl _ _⟩
  | some x => exact cloneInts_some w x n c f hnl hR

/-- What cloneLists has done after j lists. -/
def ClonedL (wr : World) (ob n j : Nat) (D : Nat → Nat) (F : Nat → Nat → Int) : Prop :=
  ∃ f, wr.rowIs ob 22 n f ∧ ∀ v, v < j → ∃ x c, f v = .slice x (D v) c ∧ (∀ y, x = some y → ob < y.block) ∧ Row .i64 wr x (D v) (F v)

theorem ClonedL.lists {wr : World} {ob n : Nat} {D : Nat → Nat} {F : Nat → Nat → Int} (h : ClonedL wr ob n n D F) : Lists wr (some ⟨ob, 0, none⟩) n D F := by
  obtain ⟨f, hf, hr⟩ := h
  intro v hv
  obtain ⟨x, c, h1, _, h3⟩ := hr v hv
  exact ⟨ob, 0, x, c, rfl, hf.lt, by rw [Nat.zero_add, hf.cell hv, h1], h3⟩

theorem ClonedL.step {wr w1 : World} {ob n j : Nat} {D : Nat → Nat} {F : Nat → Nat → Int} (h : ClonedL wr ob n j D F) (hob : ob < wr.heap.size) (hb : Below wr.heap.size wr w1) {x : Option Addr} {c : Nat}
    (hx : ∀ y, x = some y → y.block = wr.heap.size) (hr : Row .i64 w1 x (D j) (F j)) : ClonedL (w1.setCell ⟨ob, j, none⟩ (.slice x (D j) c)) ob n (j + 1) D F := by
  obtain ⟨f, hf, hrr⟩ := h
  have hf1 : w1.rowIs ob 22 n f := hf.of_block (hb.block ob hob)
  have ho : Only ob w1 (w1.setCell ⟨ob, j, none⟩ (.slice x (D j) c)) := (Only.refl _ _).setCell j _
  refine ⟨_, hf1.set j _, fun v hv => ?_⟩
  by_cases e : v = j
  · subst e
    exact ⟨x, c, by simp, fun y hy => by rw [hx y hy]; exact hob, ho.row hr (fun _ y hy => by rw [hx y hy]; omega)⟩
  · obtain ⟨x', c', h1, h2, h3⟩ := hrr v (by omega)
    exact ⟨x', c', by rw [if_neg e, h1], h2, ho.row (h3.below hb) (fun _ y hy => by have := h2 y hy; omega)⟩

def CloneLPost (w : World) (n : Nat) (D : Nat → Nat) (F : Nat → Nat → Int) (e : Ending) (w' : World) : Prop :=
  ∃ a' c', e = .returned (.slice a' n c') ∧ Lists w' a' n D F ∧ Below w.heap.size w w'

set_option maxHeartbeats 400000 in
theorem cloneLists_nil (w : World) (c : Nat) : Calls Try.prog 20 #[.slice none 0 c] w fun e w' => e = .returned (.slice none 0 0) ∧ w' = w := by
  have hn := nil32
  go_enter Try.func20, Try.ntmps20
  go_wp2
  go_ret
  exact ⟨rfl, rfl⟩

/-- The lists, with what a clone wants: a nil list has no element. -/
def ListsN (w : World) (a : Option Addr) (n : Nat) (D : Nat → Nat) (F : Nat → Nat → Int) : Prop :=
  ∀ v, v < n → ∃ b o x c, a = some ⟨b, o, none⟩ ∧ b < w.heap.size ∧ w.cell? ⟨b, o + v, none⟩ = some (.slice x (D v) c) ∧ (x.isNone = true → D v = 0) ∧ Row .i64 w x (D v) (F v)

theorem ListsN.lists {w : World} {a : Option Addr} {n : Nat} {D : Nat → Nat} {F : Nat → Nat → Int} (h : ListsN w a n D F) : Lists w a n D F := fun v hv => by
  obtain ⟨b, o, x, c, h1, h2, h3, _, h5⟩ := h v hv
  exact ⟨b, o, x, c, h1, h2, h3, h5⟩
theorem ListsN.below {w w' : World} {a : Option Addr} {n : Nat} {D : Nat → Nat} {F : Nat → Nat → Int} (h : ListsN w a n D F) (hb : Below w.heap.size w w') : ListsN w' a n D F := by
  intro v hv
  obtain ⟨b, o, x, c, ha, hlt, hc, hz, hr⟩ := h v hv
  exact ⟨b, o, x, c, ha, Nat.lt_of_lt_of_le hlt hb.size, (hb.cell (p := ⟨b, o + v, none⟩) hlt).trans hc, hz, hr.below hb⟩

set_option maxHeartbeats 1000000 in
theorem cloneLists_some (w : World) (y : Addr) (n c : Nat) (D : Nat → Nat) (F : Nat → Nat → Int) (hnl : n ≤ 65536) (hD : ∀ v, v < n → D v ≤ 1048576) (hL : ListsN w (some y) n D F) :
    Calls Try.prog 20 #[.slice (some y) n c] w (CloneLPost w n D F) := by
  have hn := nil32
  have hmk := run_make_row' (P := Try.prog) 32 22 (.slice none 0 0) 24 Try.underlying32 Try.info22 rfl .i64 .i64 n (by omega) (by omega)
  have hst : Hid (ClonedL (w.alloc (.cells (madeCells #[.slice none 0 0] n) 22)) w.heap.size n 0 D F) := ⟨_, World.rowIs_made w (.slice none 0 0) n 22, fun v hv => by omega⟩
  have HL : Hid (ListsN w (some y) n D F ∧ ∀ v, v < n → D v ≤ 1048576) := ⟨hL, hD⟩
  clear hL hD
  go_enter Try.func20, Try.ntmps20
  go_wp2
  go_loopg [4] n (fun k i wr => ∃ j : Nat, j ≤ n ∧ n - j = k ∧ i = .int .i64 j ∧ Hid (ClonedL wr w.heap.size n j D F) ∧ w.heap.size < wr.heap.size ∧ Below w.heap.size w wr)
  case atStart => exact ⟨0, by omega, by omega, rfl, hst, by simp, (Below.refl _ _).alloc (Nat.le_refl _) _⟩
  case round =>
    obtain ⟨j, hj, rfl, rfl, hcl, hsz, hbel⟩ := hrel
    clear hmk hst
    by_cases hlt : j < n
    · obtain ⟨b, o, x, cx, e, _, h1, hz, hr⟩ := HL.out.1.below hbel j hlt
      simp at e
      subst e
      have hDj := HL.out.2 j hlt
      have HR : Hid (Row .i64 wr x (D j) (F j) ∧ (x.isNone = true → D j = 0)) := ⟨hr, hz⟩
      clear hr hz
      go_wp2_with fail
      refine (cloneInts_any wr x (D j) cx (F j) hDj HR.out.2 HR.out.1).mono ?_
      rintro e w1 ⟨a1, c1, rfl, _, hx1, hr1, hb1⟩
      have R : Hid (ClonedL (w1.setCell ⟨w.heap.size, j, none⟩ (.slice a1 (D j) c1)) w.heap.size n (j + 1) D F) := hcl.out.step hsz hb1 hx1 hr1
      obtain ⟨f, hf, _⟩ := id hcl.out
      have hf1 := hf.of_block (hb1.block w.heap.size hsz)
      have m0 := hf1.cell hlt
      have m1 := hf1.frozen j
      have hb2 : Below w.heap.size w w1 := hbel.trans (hb1.mono (Nat.le_of_lt hsz))
      have hs1 := hb1.size
      clear hf hf1 hx1 hr1 hb1
      go_wp2
      go_roundg (n - (j + 1))
      case measure => omega
      case rel =>
        go_light
        exact ⟨j + 1, by omega, rfl, by go_num, R, by rw [sc_size]; omega, hb2.setCell (Nat.le_refl _) _⟩
    · have e : n = j := by omega
      subst e
      go_wp2
      go_ret
      exact ⟨_, _, rfl, hcl.out.lists, hbel⟩

theorem cloneLists_any (w : World) (a : Option Addr) (n c : Nat) (D : Nat → Nat) (F : Nat → Nat → Int) (hnl : n ≤ 65536) (ha : a.isNone = true → n = 0) (hD : ∀ v, v < n → D v ≤ 1048576) (hL : ListsN w a n D F) :
    Calls Try.prog 20 #[.slice a n c] w (CloneLPost w n D F) := by
  cases a with
  | none =>
    obtain rfl := ha rfl
    refine (cloneLists_nil w c).mono ?_
    rintro e w' ⟨rfl, rfl⟩
    exact ⟨none, 0, rfl, fun i hi => by omega, Below.refl _ _⟩
  | some y => exact cloneLists_some w y n c D F hnl hD hL

end Go.Proofs.Qxb6601860a
