import Derived.Test.Qxb6601806aWb
import Derived.Deep.RegionHeld3
namespace Go.Proofs.Qxb6601806a
open Go.RowKit

/-- The slice value v reads as n bytes f, in a block from L on. -/
def ByteRow (w : World) (L : Nat) (v : Value) (n : Nat) (f : Nat → Int) : Prop :=
  (v = .slice none 0 0 ∧ n = 0) ∨ ∃ b o sp c, v = .slice (some ⟨b, o, sp⟩) n c ∧ (0 < n → sp = none) ∧ L ≤ b ∧ ∀ i, i < n → w.cell? ⟨b, o + i, none⟩ = some (.int .u8 (f i))

theorem ByteRow.lower {w : World} {L L' : Nat} {v : Value} {n : Nat} {f : Nat → Int} (h : ByteRow w L v n f) (hL : L' ≤ L) : ByteRow w L' v n f := by
  rcases h with h | ⟨b, o, sp, c, hv, hsp, hb, hc⟩
  · exact .inl h
  · exact .inr ⟨b, o, sp, c, hv, hsp, by omega, hc⟩

theorem ByteRow.below {w w' : World} {L : Nat} {v : Value} {n : Nat} {f : Nat → Int} (h : ByteRow w L v n f) (hb : Below w.heap.size w w') : ByteRow w' L v n f := by
  rcases h with h | ⟨b, o, sp, c, hv, hsp, hL, hc⟩
  · exact .inl h
  · exact .inr ⟨b, o, sp, c, hv, hsp, hL, fun i hi => (hb.cell (p := ⟨b, o + i, none⟩) (World.block_lt_of_cell? w ⟨b, o + i, none⟩ (hc i hi))).trans (hc i hi)⟩

theorem cell?_setCell_block (w : World) (a p : Addr) (v : Value) (h : p.block ≠ a.block) : (w.setCell a v).cell? p = w.cell? p :=
  World.cell?_of_block (w := w) (Below.heap_setCell w a v p.block h)

theorem ByteRow.setCell {w : World} {L : Nat} {v : Value} {n : Nat} {f : Nat → Int} (h : ByteRow w L v n f) {a : Addr} (ha : a.block < L) (u : Value) : ByteRow (w.setCell a u) L v n f := by
  rcases h with h | ⟨b, o, sp, c, hv, hsp, hL, hc⟩
  · exact .inl h
  · exact .inr ⟨b, o, sp, c, hv, hsp, hL, fun i hi => (cell?_setCell_block w a ⟨b, o + i, none⟩ u (by show b ≠ a.block; omega)).trans (hc i hi)⟩

theorem ByteRow.drew {w : World} {L : Nat} {v : Value} {n : Nat} {f : Nat → Int} (h : ByteRow w L v n f) : ByteRow w.drew L v n f := h

theorem cloneBytes_any (w : World) (L : Nat) (v : Value) (n : Nat) (f : Nat → Int) (hnl : n ≤ 1048576) (h : ByteRow w L v n f) :
    Calls Try.prog 30 #[v] w fun e w' => ∃ x c, e = .returned (.slice x n c) ∧ ByteRow w' w.heap.size (.slice x n c) n f ∧ Below w.heap.size w w' := by
  rcases h with ⟨rfl, rfl⟩ | ⟨b, o, sp, c, rfl, hsp, _, hc⟩
  · refine (cloneBytes_nil w).mono ?_
    rintro e w' ⟨rfl, rfl⟩
    exact ⟨_, _, rfl, .inl ⟨rfl, rfl⟩, Below.refl _ _⟩
  · refine (cloneBytes_some w b o n c sp f hnl hsp hc).mono ?_
    rintro e w' ⟨rfl, hr, _, hb⟩
    exact ⟨_, _, rfl, .inr ⟨_, _, _, _, rfl, fun _ => rfl, Nat.le_refl _, fun i hi => by rw [Nat.zero_add]; exact hr.cell hi⟩, hb⟩

theorem Try.info76 : (Try.prog.info? 76).map (fun i => (i.zero, i.size, i.bytes)) = some (some (.agg #[.int .u16 0, .int .u32 0, .slice none 0 0]), 3, 32) := by kernel_rfl
theorem Try.info78 : (Try.prog.info? 78).map (fun i => (i.zero, i.size, i.bytes)) = some (some (.agg #[.int .u16 0, .int .u32 0, .slice none 0 0]), 3, 32) := by kernel_rfl

end Go.Proofs.Qxb6601806a
