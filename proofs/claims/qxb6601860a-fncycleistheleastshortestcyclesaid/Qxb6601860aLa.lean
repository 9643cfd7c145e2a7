import Derived.WalkKit
import Derived.WalkSpells
import Derived.WalkLawsBesides
import Derived.Deep.LoopGhost
import Derived.Deep.OwnRows
import Derived.Deep.Light
import Derived.Deep.QuietTactic
import Derived.BigQuiet
import Derived.Laws.CopyOwn
import Derived.Deep.RegionHeld3
import Derived.Deep.Cut
import Derived.Deep.CutRange
import Derived.Deep.CutBlock
import Derived.Test.Qxb6601860aGb
namespace Go.Proofs.Qxb6601860a
open Go.RowKit

/-! ### A slice of integers that is read -/
/-- The first n cells behind the slice's address hold f. -/
def Row (k : IntKind) (w : World) (a : Option Addr) (n : Nat) (f : Nat → Int) : Prop :=
  ∀ i, i < n → ∃ b o, a = some ⟨b, o, none⟩ ∧ b < w.heap.size ∧ w.cell? ⟨b, o + i, none⟩ = some (.int k (f i))

theorem Row.below {k : IntKind} {w w' : World} {a : Option Addr} {n : Nat} {f : Nat → Int} (h : Row k w a n f) (hb : Below w.heap.size w w') : Row k w' a n f := by
  intro i hi
  obtain ⟨b, o, ha, hlt, hc⟩ := h i hi
  exact ⟨b, o, ha, Nat.lt_of_lt_of_le hlt hb.size, (hb.cell (p := ⟨b, o + i, none⟩) hlt).trans hc⟩

theorem Row.of_rowIs {k : IntKind} {w : World} {g t n : Nat} {f : Nat → Int} (h : w.rowIs g t n (fun i => .int k (f i))) : Row k w (some ⟨g, 0, none⟩) n f := fun i hi =>
  ⟨g, 0, rfl, h.lt, by rw [Nat.zero_add]; exact h.cell hi⟩

theorem bthen {a b c : World} (h : Below a.heap.size a b) (k : Below b.heap.size b c) : Below a.heap.size a c := h.trans (k.mono h.size)

/-! ### Only block g has turned -/
structure Only (g : Nat) (w w' : World) : Prop where
  os : w'.os = w.os
  tape : w'.tape = w.tape
  output : w'.output = w.output
  size : w'.heap.size = w.heap.size
  block : ∀ k, k ≠ g → w'.heap[k]? = w.heap[k]?

theorem Only.refl (g : Nat) (w : World) : Only g w w := ⟨rfl, rfl, rfl, rfl, fun _ _ => rfl⟩
theorem Only.trans {g : Nat} {a b c : World} (h : Only g a b) (k : Only g b c) : Only g a c :=
  ⟨k.os.trans h.os, k.tape.trans h.tape, k.output.trans h.output, k.size.trans h.size, fun i hi => (k.block i hi).trans (h.block i hi)⟩
theorem Only.setCell {g : Nat} {a w : World} (h : Only g a w) (i : Nat) (v : Value) : Only g a (w.setCell ⟨g, i, none⟩ v) :=
  h.trans ⟨rfl, rfl, rfl, by simp [World.setCell], fun k hk => Below.heap_setCell _ _ _ _ hk⟩
theorem Only.drewN {g : Nat} {a w : World} (h : Only g a w) (n : Nat) : Only g a (w.drewN n) := h.trans ⟨rfl, rfl, rfl, rfl, fun _ _ => rfl⟩
theorem Only.below {g B : Nat} {w0 w w' : World} (h : Only g w w') (hb : Below B w0 w) (hB : B ≤ g) : Below B w0 w' :=
  hb.trans ⟨h.os, h.tape, h.output, Nat.le_of_eq h.size.symm, fun k hk => h.block k (by omega)⟩
theorem Only.row {g : Nat} {k : IntKind} {w w' : World} {a : Option Addr} {n : Nat} {f : Nat → Int} (h : Only g w w') (hr : Row k w a n f) (hg : 0 < n → ∀ x, a = some x → x.block ≠ g) : Row k w' a n f := by
  intro i hi
  obtain ⟨b, o, ha, hlt, hc⟩ := hr i hi
  exact ⟨b, o, ha, by rw [h.size]; exact hlt, (World.cell?_of_block (w := w) (h.block b (hg (by omega) _ ha))).trans hc⟩

theorem Row.ne {k : IntKind} {w : World} {a : Option Addr} {n g : Nat} {f : Nat → Int} (h : Row k w a n f) (hg : w.heap.size ≤ g) : 0 < n → ∀ x, a = some x → x.block ≠ g := by
  intro hn x hx
  obtain ⟨b, o, e, hlt, _⟩ := h 0 hn
  rw [hx] at e
  simp at e
  subst e
  show b ≠ g
  omega

/-- 'copy(dst, src)', dst a whole own row, src as long as it: what its run comes to. -/
theorem run_copy_full {P : Program} {w : World} (dT sT ty elem : TypeId) (hu : P.underlying dT = some (.slice elem)) (hsz : (P.info? elem).map (·.size) = some 1)
    (g n dCap : Nat) (sp : Option Addr) (sCap : Nat) (t : TypeId) (f0 : Nat → Value) (hg : w.rowIs g t n f0) (k : IntKind) (f : Nat → Int) (hr : Row k w sp n f) :
    ∃ w', (Builtin.copy_ #[dT, sT] ty #[.slice (some ⟨g, 0, none⟩) n dCap, .slice sp n sCap]).run P w = .ok (.int .i64 n) w' ∧ w'.rowIs g t n (fun i => .int k (f i)) ∧ Only g w w' := by
  by_cases hn : n = 0
  · subst hn
    exact ⟨w, run_copy_none (P := P) w dT sT ty elem _ _ 0 dCap 0 sCap hu hsz rfl, hg.congr (fun i hi => by omega), Only.refl _ _⟩
  · obtain ⟨b, off, hsp, _, _⟩ := hr 0 (by omega)
    subst hsp
    obtain ⟨cur, hcur, hcn, _⟩ := hg
    have hcs : ((List.range n).map fun i => Value.int k (f i)).length = n := by simp
    have hrun := run_copy_row (P := P) w dT sT ty elem g 0 n dCap ⟨b, off, none⟩ n sCap cur t ((List.range n).map fun i => Value.int k (f i)) hu hsz hcur (by rw [hcs]; exact (Nat.min_self n).symm) (by
      intro j v hj
      have hjn : j < n := by
        rcases Nat.lt_or_ge j n with h | h
        · exact h
        · simp [List.getElem?_eq_none (show ((List.range n).map fun i => Value.int k (f i)).length ≤ j by simpa using h)] at hj
      obtain ⟨b', o', e, _, hc⟩ := hr j hjn
      simp at e
      obtain ⟨rfl, rfl⟩ := e
      simp [hjn] at hj
      subst hj
      rw [show (⟨b, off, none⟩ : Addr).add j = ⟨b, off + j, none⟩ by unfold Addr.add; split <;> simp_all]
      exact hc) (by rw [hcs]; omega) (by
      intro v hv
      simp at hv
      obtain ⟨i, _, rfl⟩ := hv
      rfl)
    rw [hcs] at hrun
    refine ⟨_, hrun, ⟨_, setRow_heap w g _ _ t _ hcur, by simp; omega, fun i hi => ?_⟩, ⟨rfl, rfl, rfl, by simp [World.setRow], fun j hj => setRow_other w g j _ hj⟩⟩
    simp [List.getElem?_append, hi]

theorem Row.congr {k : IntKind} {w : World} {a : Option Addr} {n : Nat} {f f' : Nat → Int} (h : Row k w a n f) (e : ∀ i, i < n → f i = f' i) : Row k w a n f' := by
  intro i hi
  obtain ⟨b, o, ha, hlt, hc⟩ := h i hi
  exact ⟨b, o, ha, hlt, by rw [hc, e i hi]⟩

/-- A slice of slices of integers that is read: list v has D v elements, F v. -/
def Lists (w : World) (a : Option Addr) (n : Nat) (D : Nat → Nat) (F : Nat → Nat → Int) : Prop :=
  ∀ v, v < n → ∃ b o x c, a = some ⟨b, o, none⟩ ∧ b < w.heap.size ∧ w.cell? ⟨b, o + v, none⟩ = some (.slice x (D v) c) ∧ Row .i64 w x (D v) (F v)

theorem Lists.below {w w' : World} {a : Option Addr} {n : Nat} {D : Nat → Nat} {F : Nat → Nat → Int} (h : Lists w a n D F) (hb : Below w.heap.size w w') : Lists w' a n D F := by
  intro v hv
  obtain ⟨b, o, x, c, ha, hlt, hc, hr⟩ := h v hv
  exact ⟨b, o, x, c, ha, Nat.lt_of_lt_of_le hlt hb.size, (hb.cell (p := ⟨b, o + v, none⟩) hlt).trans hc, hr.below hb⟩

end Go.Proofs.Qxb6601860a
