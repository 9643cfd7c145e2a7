import Derived.Test.Qxb6601860aKb
import Derived.ProofKit
import Derived.OpenShut
import Derived.ChangeOld
import Derived.Deep.Matrix
namespace Go.Proofs.Qxb6601860a
open Go.ChangeShapes Go.WideShapes Go.ChangeAt Go.RowKit
set_option linter.unusedVariables false

theorem own : ownKnob Try.prog.godebug = none := by kernel_rfl
theorem laidOut : laidOutB Try.prog = true := by kernel_rfl
theorem Try.cells3 : Try.prog.cellsOf 3 = 1 := by kernel_rfl
theorem Try.cells22 : Try.prog.cellsOf 22 = 1 := by kernel_rfl

/-- Cells from an address on, read as a row. -/
theorem row_of {w : World} {x : Addr} {n : Nat} {f : Nat → Int} (h : ∀ i, i < n → w.cell? (x.add i) = some (.int .i64 (f i))) : Row .i64 w (some x) n f := by
  intro i hi
  obtain ⟨b, o, sp⟩ := x
  have hsp : sp = none := by simpa [Addr.add] using World.cell?_spot (h 0 (by omega))
  subst hsp
  have h1 := h i hi
  rw [add_plain] at h1
  exact ⟨b, o, rfl, World.block_lt_of_cell? w ⟨b, o + i, none⟩ h1, h1⟩

/-- A []int that came in. -/
theorem ints_of {H : Type} {enc : TypeId × Value → H} {w : World} {fuel : Nat} {a : Option Addr} {n c : Nat} {x : DataW H × List MemPlace}
    (h : DataW.trod enc Try.prog w 0 (fun _ => true) true fuel 22 [.slice a n c] = some x) : ∃ f, (a.isNone = true → n = 0) ∧ Row .i64 w a n f := by
  rcases open_ints Try.underlying22 Try.underlying3 Try.cells3 h with ⟨hcs, _⟩ | ⟨x, l, c, zs, hcs, _, hl, hm, hz, _, hcell, hwz⟩
  · simp at hcs
    obtain ⟨rfl, rfl, rfl⟩ := hcs
    exact ⟨fun _ => 0, fun _ => rfl, fun i hi => by omega⟩
  · simp at hcs
    obtain ⟨rfl, rfl, rfl⟩ := hcs
    simp at hz
    exact ⟨fun i => zs.getD i 0, fun h => by simp at h, row_of (fun i hi => hcell i (by omega))⟩

/-- A [][]int that came in. -/
theorem lists_of {H : Type} {enc : TypeId × Value → H} {w : World} {fuel : Nat} {a : Option Addr} {n c : Nat} {x : DataW H × List MemPlace}
    (h : DataW.trod enc Try.prog w 0 (fun _ => true) true fuel 32 [.slice a n c] = some x) : ∃ D F, (a.isNone = true → n = 0) ∧ ListsN w a n D F := by
  rcases Deep.open_int_rows Try.underlying32 Try.underlying22 Try.underlying3 Try.cells22 Try.cells3 h with ⟨hcs, _⟩ | ⟨x, len, cap, A, L, C, Z, hcs, _, hl, hm, _, hx⟩
  · simp at hcs
    obtain ⟨rfl, rfl, rfl⟩ := hcs
    exact ⟨fun _ => 0, fun _ _ => 0, fun _ => rfl, fun i hi => by omega⟩
  · simp at hcs
    obtain ⟨rfl, rfl, rfl⟩ := hcs
    refine ⟨L, fun v k => (Z v).getD k 0, fun h => by simp at h, fun v hv => ?_⟩
    obtain ⟨b, o, sp⟩ := x
    have hsp : sp = none := by simpa [Addr.add] using World.cell?_spot (hx 0 (by omega)).1
    subst hsp
    obtain ⟨h1, h2, h3, h4, h5, h6, h7⟩ := hx v (by omega)
    rw [add_plain] at h1
    refine ⟨b, o, A v, C v, rfl, World.block_lt_of_cell? w ⟨b, o + v, none⟩ h1, h1, fun hn => ?_, ?_⟩
    · have := h6 (by simpa using hn); omega
    · cases hA : A v with
      | none => have := h6 hA; exact fun i hi => by omega
      | some y => exact row_of (fun i hi => (h7 y hA).2 i (by omega))

end Go.Proofs.Qxb6601860a
