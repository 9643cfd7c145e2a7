import Derived.Test.Qxb6601806aProg
import Derived.WalkKit
import Derived.WalkSpells
import Derived.WalkLawsBesides
import Derived.Deep.LoopGhost
import Derived.Deep.OwnRows
import Derived.Deep.Light
import Derived.Deep.QuietTactic
import Derived.BigQuiet
namespace Go.Proofs.Qxb6601806a
open Go.RowKit

theorem Try.info5 : (Try.prog.info? 5).map (fun i => (i.zero, i.size, i.bytes)) = some (some (.int .u8 0), 1, 1) := by kernel_rfl

set_option maxHeartbeats 400000 in
theorem cloneBytes_nil (w : World) :
    Calls Try.prog 30 #[.slice none 0 0] w fun e w' => e = .returned (.slice none 0 0) ∧ w' = w := by
  have hn := fun (w : World) (a : Option Addr) (n c n' c' : Nat) => Lib.run_eql_slice_nil (P := Try.prog) w 33 5 a n c n' c' Try.underlying33
  go_enter Try.func30, Try.ntmps30
  go_wp2
  go_ret
  exact ⟨rfl, rfl⟩

set_option maxHeartbeats 400000 in
theorem cloneBytes_some (w : World) (b o n c : Nat) (sp : Option Nat) (f : Nat → Int) (hnl : n ≤ 1048576) (hsp : 0 < n → sp = none) (hc : ∀ i, i < n → w.cell? ⟨b, o + i, none⟩ = some (.int .u8 (f i))) :
    Calls Try.prog 30 #[.slice (some ⟨b, o, sp⟩) n c] w fun e w' => e = .returned (.slice (some ⟨w.heap.size, 0, none⟩) n n) ∧ w'.rowIs w.heap.size 5 n (fun i => .int .u8 (f i)) ∧ w'.heap.size = w.heap.size + 1 ∧ Below w.heap.size w w' := by
  have hn := fun (w : World) (a : Option Addr) (n c n' c' : Nat) => Lib.run_eql_slice_nil (P := Try.prog) w 33 5 a n c n' c' Try.underlying33
  have hmk := run_make_row' (P := Try.prog) 33 5 (.int .u8 0) 1 Try.underlying33 Try.info5 rfl .i64 .i64 n (by omega) (by omega)
  have hbl : ∀ i, i < n → b < w.heap.size := fun i hi => World.block_lt_of_cell? w ⟨b, o + i, none⟩ (hc i hi)
  have hst : (w.alloc (.cells (madeCells #[.int .u8 0] n) 5)).rowIs w.heap.size 5 n (fun i => .int .u8 (if i < 0 then f i else 0)) := (World.rowIs_made w (.int .u8 0) n 5).congr (fun i _ => by simp)
  go_enter Try.func30, Try.ntmps30
  go_wp2
  go_loopg [4] n (fun k i wr => ∃ j : Nat, j ≤ n ∧ k = n - j ∧ i = .int .i64 j ∧ wr.rowIs w.heap.size 5 n (fun i => .int .u8 (if i < j then f i else 0)) ∧ wr.heap.size = w.heap.size + 1 ∧ Below w.heap.size w wr)
  case atStart => exact ⟨0, by omega, by omega, rfl, hst, by simp, (Below.refl _ _).alloc (Nat.le_refl _) _⟩
  case round =>
    obtain ⟨j, hj, rfl, rfl, hrow, hsz, hbel⟩ := hrel
    clear hmk hst
    by_cases hlt : j < n
    · have hs0 := hsp (by omega)
      subst hs0
      have h1 : wr.cell? ⟨b, o + j, none⟩ = some (.int .u8 (f j)) := (hbel.cell (p := ⟨b, o + j, none⟩) (hbl j hlt)).trans (hc j hlt)
      have h2 : wr.cell? ⟨w.heap.size, j, none⟩ = some (.int .u8 0) := by rw [hrow.cell hlt]; simp
      have h3 := hrow.frozen j
      have R := (hrow.set j (.int .u8 (f j))).congr (g := fun i => .int .u8 (if i < j + 1 then f i else 0)) (fun i hi => by
        by_cases e : i = j
        · subst e; simp
        · rw [if_neg e]; by_cases h : i < j
          · rw [if_pos h, if_pos (by omega)]
          · rw [if_neg h, if_neg (by omega)])
      clear hc hrow
      go_wp2
      go_roundg (n - (j + 1))
      case measure => omega
      case rel => go_light; exact ⟨j + 1, by omega, rfl, by go_num, R, by simp [hsz], hbel.setCell (Nat.le_refl _) _⟩
    · have e : j = n := by omega
      subst e
      go_wp2
      go_ret
      exact ⟨rfl, hrow.congr (fun i hi => by simp [hi]), hsz, hbel⟩

end Go.Proofs.Qxb6601806a
