import Derived.Test.Qxb6601860aProg
import Derived.Test.Qxb6601860aMa
namespace Go.Proofs.Qxb6601860a
open Go.RowKit
set_option linter.unusedVariables false

theorem Try.info3 : (Try.prog.info? 3).map (fun i => (i.zero, i.size, i.bytes)) = some (some (.int .i64 0), 1, 8) := by kernel_rfl
theorem Try.info59 : (Try.prog.info? 59).map (fun i => (i.zero, i.size, i.bytes)) = some (some (.agg #[.int .i64 0, .int .i64 0]), 2, 16) := by kernel_rfl
theorem Try.info4 : (Try.prog.info? 4).map (fun i => (i.zero, i.size, i.bytes)) = some (some (.bool false), 1, 1) := by kernel_rfl
theorem Try.info22 : (Try.prog.info? 22).map (fun i => (i.zero, i.size, i.bytes)) = some (some (.slice none 0 0), 1, 24) := by kernel_rfl

def EnterPost (N n : Nat) (s : TS) (w : World) (e : Ending) (w' : World) : Prop :=
  e = .returned (.tuple #[]) ∧ Below N w w' ∧ ∃ sv cv, Mem N n s sv cv w'

set_option maxHeartbeats 1000000 in
theorem enter_any (N n : Nat) (s : TS) (sv cv : Value) (w : World) (j : Nat) (hn : n ≤ 65536) (hj : j < n) (hc : s.cnt < n) (hls : s.stack.length ≤ n) (hlg : s.gray.length ≤ n) (hp : s.ptr j = 0) (h : Mem N n s sv cv w) :
    Calls Try.prog 30 #[.int .i64 j, .pointer (some ⟨N + 9, 0, none⟩), .pointer (some ⟨N + 1, 0, none⟩), .pointer (some ⟨N + 3, 0, none⟩), .pointer (some ⟨N + 7, 0, none⟩), .pointer (some ⟨N + 6, 0, none⟩), .pointer (some ⟨N + 8, 0, none⟩)] w
      (EnterPost N n (s.enter j) w) := by
  have c0 := cell_of_one h.cntB
  have f0 := free_of_one h.cntB
  obtain ⟨w1, hw1⟩ : ∃ w1, w1 = w.setCell ⟨N + 9, 0, none⟩ (.int .i64 ((s.cnt : Int) + 1)) := ⟨_, rfl⟩
  have h1 : Mem N n { s with cnt := s.cnt + 1 } sv cv w1 := by rw [hw1]; exact h.setCnt (s.cnt + 1)
  have hb1 : Below N w w1 := by rw [hw1]; exact (Below.refl _ _).setCell (by show N ≤ N + 9; omega) _
  have HW1 : Hid (w1 = w.setCell ⟨N + 9, 0, none⟩ (.int .i64 ((s.cnt : Int) + 1))) := hw1
  have HM1 : Hid (Mem N n { s with cnt := s.cnt + 1 } sv cv w1) := h1
  clear hw1 h
  go_enter Try.func30, Try.ntmps30
  go_wp2
  rw [← HW1.out]
  have c1 := cell_of_one h1.visB
  have c3 := cell_of_one h1.lowB
  have c9 := cell_of_one h1.cntB
  rw [show (((s.cnt + 1 : Nat)) : Int) = (s.cnt : Int) + 1 by omega] at c9
  have v0 := h1.visR.cell hj
  have v1 := h1.visR.frozen j
  have l0 := h1.lowR.cell hj
  have l1 := h1.lowR.frozen j
  have hjI : (j : Int) < (n : Int) := by omega
  clear h1 c0 f0 HW1
  go_region
  obtain ⟨w2, hw2⟩ : ∃ w2, w2 = ((w1.setCell ⟨N, j, none⟩ (.int .i64 ((s.cnt : Int) + 1))).setCell ⟨N + 2, j, none⟩ (.int .i64 ((s.cnt : Int) + 1))).drew := ⟨_, rfl⟩
  rw [← hw2]
  have h2 : Mem N n { s with cnt := s.cnt + 1, vis := upd s.vis j (s.cnt + 1), low := upd s.low j (s.cnt + 1) } sv cv w2 := by rw [hw2]; exact ((HM1.out.setVis j (s.cnt + 1)).setLow j (s.cnt + 1)).drew
  have hb2 : Below N w w2 := by rw [hw2]; exact ((hb1.setCell (Nat.le_refl _) _).setCell (by show N ≤ N + 2; omega) _).drew
  clear hw2 hb1 c1 c3 c9 v0 v1 l0 l1
  have c7 := cell_of_one h2.stkB
  have HM2 : Hid (Mem N n { s with cnt := s.cnt + 1, vis := upd s.vis j (s.cnt + 1), low := upd s.low j (s.cnt + 1) } sv cv w2) := h2
  have hz2 := h2.size
  clear h2 HM1
  obtain ⟨i0, hi0, hz0, hz1, hz3⟩ := info_parts Try.info3
  go_wp2_with (at_builtin; refine wpList_append_own _ rfl (.tmp 18) (.tmp 20) 22 rfl (N + 10) 3 i0 (.int .i64 0) 1 8 Try.underlying22 hi0 hz0 hz1 hz3 rfl (by decide) sv s.stack.length (nums s.stack) rfl (HM2.out.stkR.alloc _) ⟨w2.heap.size, 0, none⟩ 1 1 [.int .i64 (j : Int)] rfl rfl (cell_one_new _ _ _) ?c2 ?c3 ?c4 ?c5 ?_)
  case c2 => intro u hu; simp at hu; subst hu; rfl
  case c3 => unfold maxLen; omega
  case c4 => omega
  case c5 => simp; omega
  intro sv' w3 hown3 hg3 _
  obtain ⟨xa, xc, hx⟩ := owns_slice hown3
  have ho3 : w3.ownsRow (N + 10) 3 1 sv' (s.stack ++ [j]).length (nums (s.stack ++ [j])) := by rw [nums_app, List.length_append]; exact hown3
  have hM2a := HM2.out.alloc (.cells #[.int .i64 (j : Int)] 3)
  have b7 := (hM2a.grownS hg3 (N + 7) (by omega)).trans hM2a.stkB
  have c7' := cell_of_one b7
  have f7' := free_of_one b7
  have h3 := hM2a.pushStk hg3 ho3
  have hb3 : Below N w w3 := (hb2.alloc (by omega) _).grown hg3 (by simp; omega) (fun k hk => by have := HM2.out.stkR.lt k hk; omega)
  subst hx
  obtain ⟨w4, hw4⟩ : ∃ w4, w4 = w3.setCell ⟨N + 7, 0, none⟩ (.slice xa (s.stack.length + 1) xc) := ⟨_, rfl⟩
  rw [← hw4] at h3
  have hb4 : Below N w w4 := by rw [hw4]; exact hb3.setCell (by show N ≤ N + 7; omega) _
  have HW4 : Hid (w4 = w3.setCell ⟨N + 7, 0, none⟩ (.slice xa (s.stack.length + 1) xc)) := hw4
  have HM4 := (show Hid _ from h3)
  clear hw4 h3 hown3 hg3 ho3 hM2a b7 hb3 hb2 HM2 c7
  go_upto_region 3 with fail
  rw [← HW4.out]
  clear HW4 c7' f7'
  have c6 := cell_of_one HM4.out.onSB
  have o0 := HM4.out.onSR.cell hj
  have o1 := HM4.out.onSR.frozen j
  obtain ⟨w5, hw5⟩ : ∃ w5, w5 = w4.setCell ⟨N + 5, j, none⟩ (.bool true) := ⟨_, rfl⟩
  have h5 := HM4.out.setOnS j true (fun v => decide (v = j) || s.onS v) (fun v => by by_cases e : v = j <;> simp [e])
  rw [← hw5] at h5
  have hb5 : Below N w w5 := by rw [hw5]; exact hb4.setCell (by show N ≤ N + 5; omega) _
  have HW5 : Hid (w5 = w4.setCell ⟨N + 5, j, none⟩ (.bool true)) := hw5
  clear hw5
  go_upto_region 4 with fail
  rw [← HW5.out]
  clear HW5 c6 o0 o1 HM4 hb4
  have c8 := cell_of_one h5.calB
  have hz5 := h5.size
  have HM5 := (show Hid _ from h5)
  clear h5 hi0 hz0 hz1 hz3
  obtain ⟨i9, hi9, hz9, hz91, hz93⟩ := info_parts Try.info59
  go_wp2_with (at_builtin; refine wpList_append_own _ rfl (.tmp 25) (.tmp 28) 57 rfl (N + 10) 59 i9 (.agg #[.int .i64 0, .int .i64 0]) 2 16 Try.underlying57 hi9 hz9 hz91 hz93 rfl (by decide) cv s.gray.length (frames s.ptr s.gray) rfl (HM5.out.calR.alloc _) ⟨w5.heap.size, 0, none⟩ 1 1 [.int .i64 (j : Int), .int .i64 0] rfl rfl ?d1 ?d2 ?d3 ?d4 ?d5 ?_)
  case d2 => exact ⟨rfl, rfl⟩
  case d3 => unfold maxLen; omega
  case d4 => omega
  case d5 => omega
  intro cv' w6 hown6 hg6 _
  obtain ⟨ya, yc, hy⟩ := owns_slice hown6
  have ho6 : w6.ownsRow (N + 10) 59 2 cv' (s.gray ++ [j]).length (frames s.ptr (s.gray ++ [j])) := by rw [frames_app, List.length_append, hp]; exact hown6
  have hM5a := HM5.out.alloc (.cells #[.int .i64 (j : Int), .int .i64 0] 59)
  have b8 := (hM5a.grownC hg6 (N + 8) (by omega)).trans hM5a.calB
  have c8' := cell_of_one b8
  have f8' := free_of_one b8
  have h6 := hM5a.pushCal hg6 ho6
  have hb6 : Below N w w6 := (hb5.alloc (by omega) _).grown hg6 (by simp; omega) (fun k hk => by have := HM5.out.calR.lt k hk; omega)
  subst hy
  have hb7 := hb6.setCell (p := ⟨N + 8, 0, none⟩) (by show N ≤ N + 8; omega) (.slice ya (s.gray.length + 1) yc)
  have HM6 := (show Hid _ from h6)
  clear h6 hown6 hg6 ho6 hM5a b8 hb6 hb5 HM5 c8
  go_wp2
  go_end0
  exact ⟨rfl, hb7, _, _, HM6.out⟩

end Go.Proofs.Qxb6601860a
