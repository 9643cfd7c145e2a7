import Derived.Test.Qxb6601940aProg
import Derived.Test.Qxb6601940aLa
namespace Go.Proofs.Qxb6601940a
open Go.RowKit

theorem Try.info3 : (Try.prog.info? 3).map (fun i => (i.zero, i.size, i.bytes)) = some (some (.int .i64 0), 1, 8) := by kernel_rfl
theorem Try.info21 : (Try.prog.info? 21).map (fun i => (i.zero, i.size, i.bytes)) = some (some (.int .i32 0), 1, 4) := by kernel_rfl
theorem Try.info4 : (Try.prog.info? 4).map (fun i => (i.zero, i.size, i.bytes)) = some (some (.bool false), 1, 1) := by kernel_rfl

theorem nil35 (w : World) (a : Option Addr) (n c n' c' : Nat) : (binOp .eql 35 (.slice a n c) (.slice none n' c')).run Try.prog w = .ok (.bool a.isNone) w := Lib.run_eql_slice_nil (P := Try.prog) w 35 3 a n c n' c' Try.underlying35
theorem nil34 (w : World) (a : Option Addr) (n c n' c' : Nat) : (binOp .eql 34 (.slice a n c) (.slice none n' c')).run Try.prog w = .ok (.bool a.isNone) w := Lib.run_eql_slice_nil (P := Try.prog) w 34 21 a n c n' c' Try.underlying34
theorem nnil35 (w : World) (a : Option Addr) (n c n' c' : Nat) : (binOp .neq 35 (.slice a n c) (.slice none n' c')).run Try.prog w = .ok (.bool (!a.isNone)) w := run_neq_slice_nil_any (P := Try.prog) w 35 3 a n c n' c' Try.underlying35

set_option maxHeartbeats 400000 in
theorem zzBytes_any (w : World) (a0 a1 a2 a3 : Option Addr) (n0 n1 n2 n3 c0 c1 c2 c3 : Nat) :
    Calls Try.prog 27 #[.slice a0 n0 c0, .slice a1 n1 c1, .slice a2 n2 c2, .slice a3 n3 c3] w fun e w' => ∃ r, e = .returned (.bool r) ∧ w' = w := by
  by_cases h0 : 1048576 < n0
  · go_enter Try.func27, Try.ntmps27
    go_wp2
    go_ret
    exact ⟨_, rfl, rfl⟩
  by_cases h1 : 1048576 < n1
  · go_enter Try.func27, Try.ntmps27
    go_wp2
    go_ret
    exact ⟨_, rfl, rfl⟩
  by_cases h1' : 1048576 < n0 + n1
  · go_enter Try.func27, Try.ntmps27
    go_wp2
    go_ret
    exact ⟨_, rfl, rfl⟩
  by_cases h2 : 1048576 < n2
  · go_enter Try.func27, Try.ntmps27
    go_wp2
    go_ret
    exact ⟨_, rfl, rfl⟩
  by_cases h2' : 1048576 < n0 + n1 + n2
  · go_enter Try.func27, Try.ntmps27
    go_wp2
    go_ret
    exact ⟨_, rfl, rfl⟩
  by_cases h3 : 1048576 < n3
  · go_enter Try.func27, Try.ntmps27
    go_wp2
    go_ret
    exact ⟨_, rfl, rfl⟩
  by_cases h3' : 1048576 < n0 + n1 + n2 + n3
  · go_enter Try.func27, Try.ntmps27
    go_wp2
    go_ret
    exact ⟨_, rfl, rfl⟩
  go_enter Try.func27, Try.ntmps27
  go_wp2
  go_ret
  exact ⟨_, rfl, rfl⟩

set_option maxHeartbeats 400000 in
theorem cloneInts_nil (w : World) (c : Nat) : Calls Try.prog 24 #[.slice none 0 c] w fun e w' => e = .returned (.slice none 0 0) ∧ w' = w := by
  have hn := nil35
  go_enter Try.func24, Try.ntmps24
  go_wp2
  go_ret
  exact ⟨rfl, rfl⟩

set_option maxHeartbeats 400000 in
theorem cloneInts_any (w : World) (a : Option Addr) (n c : Nat) (f : Nat → Int) (hnl : n ≤ 1048576) (ha : a.isNone = true → n = 0) (hR : Row .i64 w a n f) :
    Calls Try.prog 24 #[.slice a n c] w fun e w' => ∃ a' c', e = .returned (.slice a' n c') ∧ a'.isNone = a.isNone ∧ Row .i64 w' a' n f ∧ Below w.heap.size w w' := by
  have hn := nil35
  cases a with
  | none =>
    obtain rfl := ha rfl
    refine (cloneInts_nil w c).mono ?_
    rintro e w' ⟨rfl, rfl⟩
    exact ⟨none, 0, rfl, rfl, fun i hi => by omega, Below.refl _ _⟩
  | some x =>
    have hmk := run_make_row' (P := Try.prog) 35 3 (.int .i64 0) 8 Try.underlying35 Try.info3 rfl .i64 .i64 n (by omega) (by omega)
    have hst : (w.alloc (.cells (madeCells #[.int .i64 0] n) 3)).rowIs w.heap.size 3 n (fun i => .int .i64 (if i < 0 then f i else 0)) := (World.rowIs_made w (.int .i64 0) n 3).congr (fun i _ => by simp)
    have HR : Hid (Row .i64 w (some x) n f) := hR
    clear hR ha
    go_enter Try.func24, Try.ntmps24
    go_wp2
    go_loopg [4] n (fun k i wr => ∃ j : Nat, j ≤ n ∧ k = n - j ∧ i = .int .i64 j ∧ wr.rowIs w.heap.size 3 n (fun i => .int .i64 (if i < j then f i else 0)) ∧ wr.heap.size = w.heap.size + 1 ∧ Below w.heap.size w wr)
    case atStart => exact ⟨0, by omega, by omega, rfl, hst, by simp, (Below.refl _ _).alloc (Nat.le_refl _) _⟩
    case round =>
      obtain ⟨j, hj, rfl, rfl, hrow, hsz, hbel⟩ := hrel
      clear hmk hst
      by_cases hlt : j < n
      · obtain ⟨b, o, e, _, h1⟩ := HR.out.below hbel j hlt
        simp at e
        subst e
        have h2 : wr.cell? ⟨w.heap.size, j, none⟩ = some (.int .i64 0) := by rw [hrow.cell hlt]; simp
        have h3 := hrow.frozen j
        have R := (hrow.set j (.int .i64 (f j))).congr (g := fun i => .int .i64 (if i < j + 1 then f i else 0)) (fun i hi => by
          by_cases e : i = j
          · subst e; simp
          · rw [if_neg e]; by_cases h : i < j
            · rw [if_pos h, if_pos (by omega)]
            · rw [if_neg h, if_neg (by omega)])
        clear hrow
        go_wp2
        go_roundg (n - (j + 1))
        case measure => omega
        case rel => go_light; exact ⟨j + 1, by omega, rfl, by go_num, R, by simp [hsz], hbel.setCell (Nat.le_refl _) _⟩
      · have e : j = n := by omega
        subst e
        go_wp2
        go_ret
        exact ⟨_, _, rfl, rfl, Row.of_rowIs (hrow.congr (fun i hi => by simp [hi])), hbel⟩

set_option maxHeartbeats 400000 in
theorem cloneInt32s_nil (w : World) (c : Nat) : Calls Try.prog 23 #[.slice none 0 c] w fun e w' => e = .returned (.slice none 0 0) ∧ w' = w := by
  have hn := nil34
  go_enter Try.func23, Try.ntmps23
  go_wp2
  go_ret
  exact ⟨rfl, rfl⟩

set_option maxHeartbeats 400000 in
theorem cloneInt32s_any (w : World) (a : Option Addr) (n c : Nat) (f : Nat → Int) (hnl : n ≤ 1048576) (ha : a.isNone = true → n = 0) (hR : Row .i32 w a n f) :
    Calls Try.prog 23 #[.slice a n c] w fun e w' => ∃ a' c', e = .returned (.slice a' n c') ∧ a'.isNone = a.isNone ∧ Row .i32 w' a' n f ∧ Below w.heap.size w w' := by
  have hn := nil34
  cases a with
  | none =>
    obtain rfl := ha rfl
    refine (cloneInt32s_nil w c).mono ?_
    rintro e w' ⟨rfl, rfl⟩
    exact ⟨none, 0, rfl, rfl, fun i hi => by omega, Below.refl _ _⟩
  | some x =>
    have hmk := run_make_row' (P := Try.prog) 34 21 (.int .i32 0) 4 Try.underlying34 Try.info21 rfl .i64 .i64 n (by omega) (by omega)
    have hst : (w.alloc (.cells (madeCells #[.int .i32 0] n) 21)).rowIs w.heap.size 21 n (fun i => .int .i32 (if i < 0 then f i else 0)) := (World.rowIs_made w (.int .i32 0) n 21).congr (fun i _ => by simp)
    have HR : Hid (Row .i32 w (some x) n f) := hR
    clear hR ha
    go_enter Try.func23, Try.ntmps23
    go_wp2
    go_loopg [4] n (fun k i wr => ∃ j : Nat, j ≤ n ∧ k = n - j ∧ i = .int .i64 j ∧ wr.rowIs w.heap.size 21 n (fun i => .int .i32 (if i < j then f i else 0)) ∧ wr.heap.size = w.heap.size + 1 ∧ Below w.heap.size w wr)
    case atStart => exact ⟨0, by omega, by omega, rfl, hst, by simp, (Below.refl _ _).alloc (Nat.le_refl _) _⟩
    case round =>
      obtain ⟨j, hj, rfl, rfl, hrow, hsz, hbel⟩ := hrel
      clear hmk hst
      by_cases hlt : j < n
      · obtain ⟨b, o, e, _, h1⟩ := HR.out.below hbel j hlt
        simp at e
        subst e
        have h2 : wr.cell? ⟨w.heap.size, j, none⟩ = some (.int .i32 0) := by rw [hrow.cell hlt]; simp
        have h3 := hrow.frozen j
        have R := (hrow.set j (.int .i32 (f j))).congr (g := fun i => .int .i32 (if i < j + 1 then f i else 0)) (fun i hi => by
          by_cases e : i = j
          · subst e; simp
          · rw [if_neg e]; by_cases h : i < j
            · rw [if_pos h, if_pos (by omega)]
            · rw [if_neg h, if_neg (by omega)])
        clear hrow
        go_wp2
        go_roundg (n - (j + 1))
        case measure => omega
        case rel => go_light; exact ⟨j + 1, by omega, rfl, by go_num, R, by simp [hsz], hbel.setCell (Nat.le_refl _) _⟩
      · have e : j = n := by omega
        subst e
        go_wp2
        go_ret
        exact ⟨_, _, rfl, rfl, Row.of_rowIs (hrow.congr (fun i hi => by simp [hi])), hbel⟩

set_option maxHeartbeats 400000 in
theorem sameInts_eq (w : World) (a a' : Option Addr) (n c c' : Nat) (f : Nat → Int) (hnl : n ≤ 1048576) (hR : Row .i64 w a n f) (hR' : Row .i64 w a' n f) :
    Calls Try.prog 29 #[.slice a n c, .slice a' n c'] w fun e w' => e = .returned (.bool true) ∧ Below w.heap.size w w' := by
  have HR : Hid (Row .i64 w a n f ∧ Row .i64 w a' n f) := ⟨hR, hR'⟩
  have hne : ((n : Int) != (n : Int)) = false := by simp
  clear hR hR'
  go_enter Try.func29, Try.ntmps29
  go_wp2
  go_loopg [5] n (fun k i wr => ∃ j : Nat, j ≤ n ∧ k = n - j ∧ i = .int .i64 j ∧ Below w.heap.size w wr)
  case atStart => exact ⟨0, by omega, by omega, rfl, Below.refl _ _⟩
  case round =>
    obtain ⟨j, hj, rfl, rfl, hbel⟩ := hrel
    by_cases hlt : j < n
    · obtain ⟨b, o, e, _, h1⟩ := HR.out.1.below hbel j hlt
      obtain ⟨b', o', e', _, h1'⟩ := HR.out.2.below hbel j hlt
      subst e e'
      have hltI : (j : Int) < (n : Int) := by omega
      have hneq : (f j != f j) = false := by simp
      go_wp2
      go_quiet (fail)
      go_wp2
      go_roundg (n - (j + 1))
      case measure => omega
      case rel => go_light; exact ⟨j + 1, by omega, rfl, by go_num, below_drewN hbel _⟩
    · have e : j = n := by omega
      subst e
      go_wp2
      go_ret
      exact ⟨rfl, hbel⟩

end Go.Proofs.Qxb6601940a
