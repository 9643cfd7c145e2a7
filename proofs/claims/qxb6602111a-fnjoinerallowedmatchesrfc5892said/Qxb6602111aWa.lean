import Derived.Test.Qxb6602111aProg
import Derived.Test.Qxb6602111aLa
namespace Go.Proofs.Qxb6602111a
open Go.RowKit
set_option linter.unusedVariables false

def jt (m : Nat) : Nat := m / 64 % 8
def ccc (m : Nat) : Nat := m / 512 % 256

theorem and448 (x : Nat) : x &&& 448 = 64 * (x / 64 % 8) := by
  have e1 : x / 64 % 8 = (x >>> 6) &&& 7 := by rw [nat_mask3, Nat.shiftRight_eq_div_pow]
  have e2 : 64 * ((x >>> 6) &&& 7) = ((x >>> 6) &&& 7) <<< 6 := by rw [Nat.shiftLeft_eq]; omega
  rw [e1, e2, show 448 = 7 <<< 6 from rfl]
  apply Nat.eq_of_testBit_eq
  intro i
  simp only [Nat.testBit_and, Nat.testBit_shiftLeft, Nat.testBit_shiftRight]
  by_cases h : i ≥ 6
  · have : 6 + (i - 6) = i := by omega
    simp [h, this]
  · simp [h]

set_option maxHeartbeats 400000 in
theorem jt_any (w : World) (m : Nat) (hm : m < 4294967296) :
    Calls Try.prog 36 #[.int .u32 m] w fun e w' => e = .returned (.int .u32 (jt m)) ∧ w' = w := by
  have hb : bits .and .u32 ((m : Int) / 64) 7 = (jt m : Nat) := by
    have := u32_and_nat (m / 64) 7 (by omega) (by omega)
    rw [nat_mask3] at this
    unfold jt
    rw [← this]
    congr 1
  go_enter Try.func36, Try.ntmps36
  go_wp2
  go_ret
  exact ⟨rfl, rfl⟩

set_option maxHeartbeats 400000 in
theorem b1ccc_any (w : World) (m : Nat) (hm : m < 4294967296) :
    Calls Try.prog 26 #[.int .u32 m] w fun e w' => e = .returned (.int .u32 (ccc m)) ∧ w' = w := by
  have hb : bits .and .u32 ((m : Int) / 512) 255 = (ccc m : Nat) := by
    have := u32_and_nat (m / 512) 255 (by omega) (by omega)
    rw [nat_mask8] at this
    unfold ccc
    rw [← this]
    congr 1
  go_enter Try.func26, Try.ntmps26
  go_wp2
  go_ret
  exact ⟨rfl, rfl⟩

theorem ret_int {k : IntKind} {a b : Int} (h : a = b) : Ending.returned (.int k a) = .returned (.int k b) := by rw [h]

set_option maxHeartbeats 400000 in
theorem ccc_any (w : World) (m : Nat) (hm : m < 4294967296) :
    Calls Try.prog 40 #[.int .u32 m] w fun e w' => e = .returned (.int .u8 (ccc m)) ∧ w' = w := by
  go_enter Try.func40, Try.ntmps40
  go_wp2
  go_ret
  exact ⟨ret_int (by unfold ccc; omega), rfl⟩

set_option maxHeartbeats 400000 in
theorem joining_any (w : World) (m : Nat) (hm : m < 4294967296) :
    Calls Try.prog 41 #[.int .u32 m] w fun e w' => e = .returned (.int .u32 (64 * jt m : Nat)) ∧ w' = w := by
  have hb : bits .and .u32 (m : Int) 448 = (64 * jt m : Nat) := by
    have := u32_and_nat m 448 (by omega) (by omega)
    rw [and448] at this
    exact this
  go_enter Try.func41, Try.ntmps41
  go_wp2
  go_ret
  exact ⟨ret_int (by omega), rfl⟩

set_option maxHeartbeats 400000 in
theorem zzBytes_any (w : World) (a0 a1 : Option Addr) (n0 n1 c0 c1 : Nat) (i : Int) (m0 : n0 ≤ maxLen) (m1 : n1 ≤ maxLen) :
    Calls Try.prog 20 #[.slice a0 n0 c0, .slice a1 n1 c1, .int .i64 i] w fun e w' => ∃ r, e = .returned (.bool r) ∧ w' = w := by
  unfold maxLen at m0 m1
  by_cases h0 : 1048576 < n0
  · go_enter Try.func20, Try.ntmps20
    go_wp2
    go_ret
    exact ⟨_, rfl, rfl⟩
  by_cases h1 : 1048576 < n1
  · go_enter Try.func20, Try.ntmps20
    go_wp2
    go_ret
    exact ⟨_, rfl, rfl⟩
  by_cases h1' : 1048576 < n0 + n1
  · go_enter Try.func20, Try.ntmps20
    go_wp2
    go_ret
    exact ⟨_, rfl, rfl⟩
  go_enter Try.func20, Try.ntmps20
  go_wp2
  go_ret
  exact ⟨_, rfl, rfl⟩

theorem Try.info21 : (Try.prog.info? 21).map (fun i => (i.zero, i.size, i.bytes)) = some (some (.int .i32 0), 1, 4) := by kernel_rfl
theorem Try.info45 : (Try.prog.info? 45).map (fun i => (i.zero, i.size, i.bytes)) = some (some (.int .u32 0), 1, 4) := by kernel_rfl
theorem Try.info47 : (Try.prog.info? 47).map (fun i => (i.zero, i.size, i.bytes)) = some (some (.int .u32 0), 1, 4) := by kernel_rfl
theorem Try.size21 : (Try.prog.info? 21).map (·.size) = some 1 := by kernel_rfl
theorem Try.size45 : (Try.prog.info? 45).map (·.size) = some 1 := by kernel_rfl
theorem nil23 (w : World) (a : Option Addr) (n c n' c' : Nat) : (binOp .eql 23 (.slice a n c) (.slice none n' c')).run Try.prog w = .ok (.bool a.isNone) w := Lib.run_eql_slice_nil (P := Try.prog) w 23 21 a n c n' c' Try.underlying23
theorem nil39 (w : World) (a : Option Addr) (n c n' c' : Nat) : (binOp .eql 39 (.slice a n c) (.slice none n' c')).run Try.prog w = .ok (.bool a.isNone) w := Lib.run_eql_slice_nil (P := Try.prog) w 39 45 a n c n' c' Try.underlying39

/-- A clone: a new row of the same numbers (the length is not 0, so it is not nil). -/
def ClonePost (w : World) (k : IntKind) (n : Nat) (f : Nat → Int) (e : Ending) (w' : World) : Prop :=
  ∃ g, e = .returned (.slice (some ⟨g, 0, none⟩) n n) ∧ Row k w' (some ⟨g, 0, none⟩) n f ∧ Below w.heap.size w w'

set_option maxHeartbeats 400000 in
theorem cloneRunes_any (w : World) (a : Option Addr) (n c : Nat) (f : Nat → Int) (hnl : n ≤ 1048576) (ha : a.isNone = false) (hR : Row .i32 w a n f) :
    Calls Try.prog 12 #[.slice a n c] w (ClonePost w .i32 n f) := by
  have hn := nil23
  have hmk := run_make_row' (P := Try.prog) 23 21 (.int .i32 0) 4 Try.underlying23 Try.info21 rfl .i64 .i64 n (by omega) (by omega)
  have hbA : ∀ O, Below w.heap.size w (w.alloc O) := fun O => (Below.refl _ _).alloc (Nat.le_refl _) _
  obtain ⟨w1, hcp, hrow1, hon1⟩ := run_copy_full (P := Try.prog) 23 23 3 21 Try.underlying23 Try.size21 w.heap.size n n a c 21 _ (World.rowIs_made w (.int .i32 0) n 21) .i32 f (hR.below (hbA _))
  have H1 : Hid (Row .i32 w1 (some ⟨w.heap.size, 0, none⟩) n f ∧ Below w.heap.size w w1) := ⟨Row.of_rowIs hrow1, hon1.below (hbA _) (Nat.le_refl _)⟩
  clear hrow1 hon1 hR
  go_enter Try.func12, Try.ntmps12
  go_wp2
  go_ret
  exact ⟨_, rfl, H1.out⟩

set_option maxHeartbeats 400000 in
theorem cloneWords_any (w : World) (a : Option Addr) (n c : Nat) (f : Nat → Int) (hnl : n ≤ 1048576) (ha : a.isNone = false) (hR : Row .u32 w a n f) :
    Calls Try.prog 21 #[.slice a n c] w (ClonePost w .u32 n f) := by
  have hn := nil39
  have hmk := run_make_row' (P := Try.prog) 39 45 (.int .u32 0) 4 Try.underlying39 Try.info45 rfl .i64 .i64 n (by omega) (by omega)
  have hbA : ∀ O, Below w.heap.size w (w.alloc O) := fun O => (Below.refl _ _).alloc (Nat.le_refl _) _
  obtain ⟨w1, hcp, hrow1, hon1⟩ := run_copy_full (P := Try.prog) 39 39 3 45 Try.underlying39 Try.size45 w.heap.size n n a c 45 _ (World.rowIs_made w (.int .u32 0) n 45) .u32 f (hR.below (hbA _))
  have H1 : Hid (Row .u32 w1 (some ⟨w.heap.size, 0, none⟩) n f ∧ Below w.heap.size w w1) := ⟨Row.of_rowIs hrow1, hon1.below (hbA _) (Nat.le_refl _)⟩
  clear hrow1 hon1 hR
  go_enter Try.func21, Try.ntmps21
  go_wp2
  go_ret
  exact ⟨_, rfl, H1.out⟩

set_option maxHeartbeats 400000 in
theorem props_any (w : World) (a : Option Addr) (n c : Nat) (f : Nat → Int) (hnl : n ≤ 1048576) (hR : Row .u32 w a n f) :
    Calls Try.prog 22 #[.slice a n c] w (ClonePost w .u32 n f) := by
  have hmk := run_make_row' (P := Try.prog) 42 47 (.int .u32 0) 4 Try.underlying42 Try.info47 rfl .i64 .i64 n (by omega) (by omega)
  have hst : (w.alloc (.cells (madeCells #[.int .u32 0] n) 47)).rowIs w.heap.size 47 n (fun i => .int .u32 (if i < 0 then f i else 0)) := (World.rowIs_made w (.int .u32 0) n 47).congr (fun i _ => by simp)
  have HR : Hid (Row .u32 w a n f) := hR
  clear hR
  go_enter Try.func22, Try.ntmps22
  go_wp2
  go_loopg [4] n (fun k i wr => ∃ j : Nat, j ≤ n ∧ k = n - j ∧ i = .int .i64 j ∧ wr.rowIs w.heap.size 47 n (fun i => .int .u32 (if i < j then f i else 0)) ∧ Below w.heap.size w wr)
  case atStart => exact ⟨0, by omega, by omega, rfl, hst, (Below.refl _ _).alloc (Nat.le_refl _) _⟩
  case round =>
    obtain ⟨j, hj, rfl, rfl, hrow, hbel⟩ := hrel
    clear hmk hst
    by_cases hlt : j < n
    · obtain ⟨b, o, e, _, h1⟩ := HR.out.below hbel j hlt
      subst e
      have h2 : wr.cell? ⟨w.heap.size, j, none⟩ = some (.int .u32 0) := by rw [hrow.cell hlt]; simp
      have h3 := hrow.frozen j
      have R := (hrow.set j (.int .u32 (f j))).congr (g := fun i => .int .u32 (if i < j + 1 then f i else 0)) (fun i hi => by
        by_cases e : i = j
        · subst e; simp
        · rw [if_neg e]; by_cases h : i < j
          · rw [if_pos h, if_pos (by omega)]
          · rw [if_neg h, if_neg (by omega)])
      clear hrow
      go_wp2
      go_roundg (n - (j + 1))
      case measure => omega
      case rel => go_light; exact ⟨j + 1, by omega, rfl, by go_num, R, hbel.setCell (Nat.le_refl _) _⟩
    · have e : n = j := by omega
      subst e
      go_wp2
      go_ret
      exact ⟨_, rfl, Row.of_rowIs (hrow.congr (fun i hi => by simp [hi])), hbel⟩

end Go.Proofs.Qxb6602111a
