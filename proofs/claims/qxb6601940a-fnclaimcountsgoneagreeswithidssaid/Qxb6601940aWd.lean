import Derived.Test.Qxb6601940aWc
namespace Go.Proofs.Qxb6601940a
open Go.RowKit
set_option linter.unusedVariables false

def qcl (g q : Nat → Int) (c : Nat) : Nat → Bool := fun i => cls g c (q i).toNat

/-- The result row after j nodes were taken off (s = -1) or put on (s = 1). -/
def Counted (wr : World) (gb n1 : Nat) (S g q : Nat → Int) (s : Int) (j : Nat) : Prop :=
  wr.rowIs gb 3 n1 (fun c => .int .i64 (S c + s * (cnt (qcl g q c) j : Nat)))

theorem Counted.step {wr : World} {gb n1 : Nat} {S g q : Nat → Int} {s : Int} {j : Nat} (h : Counted wr gb n1 S g q s j) {x : Nat} (hx : g (q j).toNat = x) {v : Int} (hv : v = S x + s * (cnt (qcl g q x) j : Nat) + s) :
    Counted (wr.setCell ⟨gb, x, none⟩ (.int .i64 v)) gb n1 S g q s (j + 1) := by
  refine (h.set x _).congr (fun c hc => ?_)
  by_cases e : c = x
  · subst e
    have : qcl g q c j = true := by simp [qcl, cls, hx]
    simp [cnt, this, hv]
    rw [Int.mul_add]
    omega
  · rw [if_neg e]
    have : qcl g q c j = false := by simp [qcl, cls, hx]; omega
    simp [cnt, this]

def CountsPost (w : World) (n1 : Nat) (F : Nat → Int) (e : Ending) (w' : World) : Prop :=
  e = .returned (.slice (some ⟨w.heap.size, 0, none⟩) n1 n1) ∧ Row .i64 w' (some ⟨w.heap.size, 0, none⟩) n1 F ∧ Below w.heap.size w w'

theorem Try.size3 : (Try.prog.info? 3).map (·.size) = some 1 := by kernel_rfl

set_option maxHeartbeats 1000000 in
theorem counts_gone (w : World) (kb : Nat) (a0 a1 a2 a3 : Option Addr) (n0 n1 n2 n3 c0 c1 c2 c3 : Nat) (g S q : Nat → Int)
    (l0 : n0 ≤ 65536) (l1 : n1 ≤ 65536) (l3 : n3 ≤ 65536) (h0 : a0.isNone = false) (h2 : a2.isNone = false) (h3 : a3.isNone = false)
    (k0 : w.cell? ⟨kb, 0, none⟩ = some (.slice a0 n0 c0)) (k2 : w.cell? ⟨kb, 2, none⟩ = some (.slice a1 n1 c1))
    (r0 : Row .i32 w a0 n0 g) (r1 : Row .i64 w a1 n1 S) (r3 : Row .i64 w a3 n3 q)
    (hg : ∀ x, x < n0 → 0 ≤ g x ∧ g x < n1) (hq : ∀ i, i < n3 → 0 ≤ q i ∧ q i < n0) (hS : ∀ c, c < n1 → 0 ≤ S c ∧ S c ≤ 65536) :
    Calls Try.prog 40 #[.pointer (some ⟨kb, 0, none⟩), .slice a2 n2 c2, .slice a3 n3 c3] w (CountsPost w n1 (fun c => S c + (-1) * (cnt (qcl g q c) n3 : Nat))) := by
  have e34 := nil34
  have e35 := nil35
  have f35 := nnil35
  have hkb : kb < w.heap.size := World.block_lt_of_cell? w ⟨kb, 0, none⟩ k0
  have HG : Hid (Row .i32 w a0 n0 g ∧ Row .i64 w a1 n1 S ∧ Row .i64 w a3 n3 q ∧ (∀ x, x < n0 → 0 ≤ g x ∧ g x < n1) ∧ (∀ i, i < n3 → 0 ≤ q i ∧ q i < n0) ∧ ∀ c, c < n1 → 0 ≤ S c ∧ S c ≤ 65536) := ⟨r0, r1, r3, hg, hq, hS⟩
  clear r0 r1 r3 hg hq hS
  have hmk := run_make_row' (P := Try.prog) 35 3 (.int .i64 0) 8 Try.underlying35 Try.info3 rfl .i64 .i64 n1 (by omega) (by omega)
  have hk2' : ∀ O, (w.alloc O).cell? ⟨kb, 2, none⟩ = some (.slice a1 n1 c1) := fun O => by rw [World.cell?_alloc_lt _ _ _ hkb]; exact k2
  have hbA : ∀ O, Below w.heap.size w (w.alloc O) := fun O => (Below.refl _ _).alloc (Nat.le_refl _) _
  obtain ⟨w1, hcp, hrow1, hon1⟩ := run_copy_full (P := Try.prog) 35 35 3 3 Try.underlying35 Try.size3 w.heap.size n1 n1 a1 c1 3 _ (World.rowIs_made w (.int .i64 0) n1 3) .i64 S (HG.out.2.1.below (hbA _))
  have hb1 : Below w.heap.size w w1 := hon1.below (hbA _) (Nat.le_refl _)
  have HC : Hid (Counted w1 w.heap.size n1 S g q (-1) 0) := (hrow1.congr (fun c hc => by simp [cnt]) : Counted w1 w.heap.size n1 S g q (-1) 0)
  clear hon1 hrow1
  go_enter Try.func40, Try.ntmps40
  go_wp2
  go_loopg [37] n3 (fun k i wr => ∃ j : Nat, j ≤ n3 ∧ k = n3 - j ∧ i = .int .i64 j ∧ Hid (Counted wr w.heap.size n1 S g q (-1) j) ∧ Below w.heap.size w wr)
  case atStart => exact ⟨0, by omega, by omega, rfl, HC, hb1⟩
  case round =>
    clear hcp hmk HC hb1
    obtain ⟨j, hj, rfl, rfl, ht, hbel⟩ := hrel
    by_cases hlt : j < n3
    · obtain ⟨b, o, e, _, h1⟩ := HG.out.2.2.1.below hbel j hlt
      subst e
      obtain ⟨hq1, hq2⟩ := HG.out.2.2.2.2.1 j hlt
      obtain ⟨y, hy⟩ := Int.eq_ofNat_of_zero_le hq1
      have hyn : y < n0 := by omega
      obtain ⟨b', o', e, _, h1'⟩ := HG.out.1.below hbel y hyn
      subst e
      obtain ⟨hg1, hg2⟩ := HG.out.2.2.2.1 y hyn
      obtain ⟨x, hx⟩ := Int.eq_ofNat_of_zero_le hg1
      have hxn : x < n1 := by omega
      have k0' := (hbel.cell (p := ⟨kb, 0, none⟩) hkb).trans k0
      obtain ⟨hS1, hS2⟩ := HG.out.2.2.2.2.2 x hxn
      have hc1 := cnt_le (qcl g q x) j
      have t1 := ht.out.cell hxn
      have t2 := ht.out.frozen x
      have R : ∀ v : Int, v = S x + (-1) * (cnt (qcl g q x) j : Nat) + (-1) → Hid (Counted (wr.setCell ⟨w.heap.size, x, none⟩ (.int .i64 v)) w.heap.size n1 S g q (-1) (j + 1)) := fun v hv => ht.out.step (by rw [hy]; exact hx) hv
      rw [hy] at h1
      rw [hx] at h1'
      generalize cnt (qcl g q x) j = cc at *
      have hyI : (y : Int) < (n0 : Int) := by omega
      have hxI : (x : Int) < (n1 : Int) := by omega
      clear hx hy hg1 hg2 hq1 hq2 ht k0 k2 hk2'
      obtain ⟨vv, hvv⟩ : ∃ vv, vv = S x + (-1) * (cc : Int) := ⟨_, rfl⟩
      have HV : Hid (vv = S x + (-1) * (cc : Int)) := hvv
      rw [← hvv] at t1
      have hv1 : -65536 ≤ vv := by omega
      have hv2 : vv ≤ 65536 := by omega
      have HRR : Hid (∀ v : Int, v = S x + (-1) * (cc : Int) + (-1) → Hid (Counted (wr.setCell ⟨w.heap.size, x, none⟩ (.int .i64 v)) w.heap.size n1 S g q (-1) (j + 1))) := R
      clear hvv R
      go_wp2
      go_roundg (n3 - (j + 1))
      case measure => omega
      case rel => go_light; exact ⟨j + 1, by omega, rfl, by go_num, HRR.out _ (by rw [HV.out]; omega), hbel.setCell (Nat.le_refl _) _⟩
    · have e : n3 = j := by omega
      subst e
      go_wp2
      go_ret
      exact ⟨rfl, Row.of_rowIs ht.out, hbel⟩

end Go.Proofs.Qxb6601940a
