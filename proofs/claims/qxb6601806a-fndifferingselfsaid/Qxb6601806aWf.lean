import Derived.Test.Qxb6601806aWe
namespace Go.Proofs.Qxb6601806a
open Go.RowKit

set_option maxHeartbeats 1000000 in
theorem differing_some (w : World) (L L' b o b' o' n c c' : Nat) (sp sp' : Option Nat) (Bk Pc Bk' Pc' : Nat → Int) (N : Nat → Nat) (F : Nat → Nat → Int) (hsp : 0 < n → sp = none ∧ sp' = none) (hn : n ≤ 1048576)
    (h : PVs w L b o n Bk Pc N F) (h' : PVs w L' b' o' n Bk' Pc' N F) :
    Calls Try.prog 32 #[.slice (some ⟨b, o, sp⟩) n c, .slice (some ⟨b', o', sp'⟩) n c'] w fun e w' => e = .returned (.slice (some ⟨w.heap.size, 0, none⟩) 0 0) ∧ Below w.heap.size w w' := by
  have HP : Hid (PVs w L b o n Bk Pc N F ∧ PVs w L' b' o' n Bk' Pc' N F) := ⟨h, h'⟩
  clear h h'
  go_enter Try.func32, Try.ntmps32
  go_wp2
  go_loopg [5, 11] n (fun k p i wr => ∃ j : Nat, j ≤ n ∧ k = n - j ∧ i = .int .i64 j ∧ p = .slice (some ⟨w.heap.size, 0, none⟩) 0 0 ∧ Below w.heap.size w wr)
  case atStart => exact ⟨0, by omega, by omega, rfl, rfl, (Below.refl _ _).alloc (Nat.le_refl _) _⟩
  case round =>
    obtain ⟨j, hj, rfl, rfl, rfl, hbel⟩ := hrel
    by_cases hlt : j < n
    · obtain ⟨hs0, hs1⟩ := hsp (by omega)
      subst hs0 hs1
      obtain ⟨h0, h1, x, c1, h2, hrow⟩ := HP.out.1.below hbel j hlt
      obtain ⟨_, _, x', c2, h2', hrow'⟩ := HP.out.2.below hbel j hlt
      have hltI : (j : Int) < (n : Int) := by omega
      have q2 : ∀ O, (wr.alloc O).cell? ⟨b', o' + j * 3 + 2, none⟩ = some (.slice x' (N j) c2) := fun O => by rw [World.cell?_alloc_some _ _ _ (by simp [h2'])]; exact h2'
      have hR : ∀ O, Hid (ByteRow (wr.alloc O) L (.slice x (N j) c1) (N j) (F j) ∧ ByteRow (wr.alloc O) L' (.slice x' (N j) c2) (N j) (F j)) := fun O =>
        ⟨hrow.below ((Below.refl _ _).alloc (Nat.le_refl _) _), hrow'.below ((Below.refl _ _).alloc (Nat.le_refl _) _)⟩
      clear hrow hrow'
      go_wp2
      go_quiet ((go_at_call 37; exact Calls.quiet_of_same (equal_any _ L L' _ _ (N j) (F j) (hR _).out.1 (hR _).out.2)))
      go_wp2
      go_roundg (n - (j + 1))
      case measure => omega
      case rel =>
        go_light
        exact ⟨j + 1, by omega, rfl, by go_num, rfl, below_drewN (hbel.alloc hbel.size _) _⟩
    · have e : j = n := by omega
      subst e
      go_wp2
      go_ret
      exact ⟨rfl, hbel⟩

set_option maxHeartbeats 400000 in
theorem zzdiffering_some (w : World) (L L' b o b' o' n c c' : Nat) (sp sp' : Option Nat) (Bk Pc Bk' Pc' : Nat → Int) (N : Nat → Nat) (F : Nat → Nat → Int) (hsp : 0 < n → sp = none ∧ sp' = none) (hn : n ≤ 1048576)
    (h : PVs w L b o n Bk Pc N F) (h' : PVs w L' b' o' n Bk' Pc' N F) :
    Calls Try.prog 19 #[.slice (some ⟨b, o, sp⟩) n c, .slice (some ⟨b', o', sp'⟩) n c'] w fun e w' => e = .returned (.slice (some ⟨w.heap.size, 0, none⟩) 0 0) ∧ Below w.heap.size w w' := by
  have H := differing_some w L L' b o b' o' n c c' sp sp' Bk Pc Bk' Pc' N F hsp hn h h'
  have HH : Hid (Calls Try.prog 32 #[.slice (some ⟨b, o, sp⟩) n c, .slice (some ⟨b', o', sp'⟩) n c'] w fun e w' => e = .returned (.slice (some ⟨w.heap.size, 0, none⟩) 0 0) ∧ Below w.heap.size w w') := H
  clear H h h' hsp
  go_enter Try.func19, Try.ntmps19
  go_wp2_with fail
  refine HH.out.mono ?_
  rintro e w' ⟨rfl, hb⟩
  go_wp2
  go_ret
  exact ⟨rfl, hb⟩

set_option maxHeartbeats 400000 in
theorem differing_nil (w : World) :
    Calls Try.prog 19 #[.slice none 0 0, .slice none 0 0] w fun e w' => e = .returned (.slice (some ⟨w.heap.size, 0, none⟩) 0 0) ∧ Below w.heap.size w w' := by
  go_enter Try.func19, Try.ntmps19
  go_wp2
  refine wp_loop_rounds 1 ?_
  rw [rounds_succ]
  go_wp2
  go_ret
  exact ⟨rfl, (Below.refl _ _).alloc (Nat.le_refl _) _⟩

end Go.Proofs.Qxb6601806a
