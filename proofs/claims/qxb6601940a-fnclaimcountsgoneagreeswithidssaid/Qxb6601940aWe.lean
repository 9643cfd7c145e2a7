import Derived.Test.Qxb6601940aWd
namespace Go.Proofs.Qxb6601940a
open Go.RowKit
set_option linter.unusedVariables false

set_option maxHeartbeats 1000000 in
theorem counts_ids (w : World) (kb : Nat) (a0 a1 a2 : Option Addr) (n0 n1 n2 c0 c1 c2 : Nat) (g p : Nat → Int)
    (l0 : n0 ≤ 65536) (l1 : n1 ≤ 65536) (l2 : n2 ≤ 65536) (h0 : a0.isNone = false) (h2 : a2.isNone = false)
    (k0 : w.cell? ⟨kb, 0, none⟩ = some (.slice a0 n0 c0)) (k2 : w.cell? ⟨kb, 2, none⟩ = some (.slice a1 n1 c1))
    (r0 : Row .i32 w a0 n0 g) (r2 : Row .i64 w a2 n2 p)
    (hg : ∀ x, x < n0 → 0 ≤ g x ∧ g x < n1) (hp : ∀ i, i < n2 → 0 ≤ p i ∧ p i < n0) :
    Calls Try.prog 40 #[.pointer (some ⟨kb, 0, none⟩), .slice a2 n2 c2, .slice none 0 0] w (CountsPost w n1 (fun c => 0 + 1 * (cnt (qcl g p c) n2 : Nat))) := by
  have e34 := nil34
  have e35 := nil35
  have f35 := nnil35
  have hkb : kb < w.heap.size := World.block_lt_of_cell? w ⟨kb, 0, none⟩ k0
  have HG : Hid (Row .i32 w a0 n0 g ∧ Row .i64 w a2 n2 p ∧ (∀ x, x < n0 → 0 ≤ g x ∧ g x < n1) ∧ (∀ i, i < n2 → 0 ≤ p i ∧ p i < n0)) := ⟨r0, r2, hg, hp⟩
  clear r0 r2 hg hp
  have hmk := run_make_row' (P := Try.prog) 35 3 (.int .i64 0) 8 Try.underlying35 Try.info3 rfl .i64 .i64 n1 (by omega) (by omega)
  have hk2' : ∀ O, (w.alloc O).cell? ⟨kb, 2, none⟩ = some (.slice a1 n1 c1) := fun O => by rw [World.cell?_alloc_lt _ _ _ hkb]; exact k2
  have hbA : ∀ O, Below w.heap.size w (w.alloc O) := fun O => (Below.refl _ _).alloc (Nat.le_refl _) _
  have HC : Hid (Counted (w.alloc (.cells (madeCells #[.int .i64 0] n1) 3)) w.heap.size n1 (fun _ => 0) g p 1 0) := ((World.rowIs_made w (.int .i64 0) n1 3).congr (fun c hc => by simp [cnt]) : Counted _ w.heap.size n1 (fun _ => 0) g p 1 0)
  go_enter Try.func40, Try.ntmps40
  go_wp2
  go_loopg [57] n2 (fun k i wr => ∃ j : Nat, j ≤ n2 ∧ k = n2 - j ∧ i = .int .i64 j ∧ Hid (Counted wr w.heap.size n1 (fun _ => 0) g p 1 j) ∧ Below w.heap.size w wr)
  case atStart => exact ⟨0, by omega, by omega, rfl, HC, hbA _⟩
  case round =>
    clear hmk HC
    obtain ⟨j, hj, rfl, rfl, ht, hbel⟩ := hrel
    by_cases hlt : j < n2
    · obtain ⟨b, o, e, _, h1⟩ := HG.out.2.1.below hbel j hlt
      subst e
      obtain ⟨hq1, hq2⟩ := HG.out.2.2.2 j hlt
      obtain ⟨y, hy⟩ := Int.eq_ofNat_of_zero_le hq1
      have hyn : y < n0 := by omega
      obtain ⟨b', o', e, _, h1'⟩ := HG.out.1.below hbel y hyn
      subst e
      obtain ⟨hg1, hg2⟩ := HG.out.2.2.1 y hyn
      obtain ⟨x, hx⟩ := Int.eq_ofNat_of_zero_le hg1
      have hxn : x < n1 := by omega
      have k0' := (hbel.cell (p := ⟨kb, 0, none⟩) hkb).trans k0
      have hc1 := cnt_le (qcl g p x) j
      have t1 := ht.out.cell hxn
      have t2 := ht.out.frozen x
      have R : ∀ v : Int, v = 0 + 1 * ((cnt (qcl g p x) j : Nat) : Int) + 1 → Hid (Counted (wr.setCell ⟨w.heap.size, x, none⟩ (.int .i64 v)) w.heap.size n1 (fun _ => 0) g p 1 (j + 1)) := fun v hv => ht.out.step (by rw [hy]; exact hx) hv
      rw [hy] at h1
      rw [hx] at h1'
      generalize cnt (qcl g p x) j = cc at *
      have hyI : (y : Int) < (n0 : Int) := by omega
      have hxI : (x : Int) < (n1 : Int) := by omega
      clear hx hy hg1 hg2 hq1 hq2 ht k0 k2 hk2'
      obtain ⟨vv, hvv⟩ : ∃ vv, vv = 0 + 1 * (cc : Int) := ⟨_, rfl⟩
      have HV : Hid (vv = 0 + 1 * (cc : Int)) := hvv
      rw [← hvv] at t1
      have hv1 : -65536 ≤ vv := by omega
      have hv2 : vv ≤ 65536 := by omega
      have HRR : Hid (∀ v : Int, v = 0 + 1 * (cc : Int) + 1 → Hid (Counted (wr.setCell ⟨w.heap.size, x, none⟩ (.int .i64 v)) w.heap.size n1 (fun _ => 0) g p 1 (j + 1))) := R
      clear hvv R
      go_wp2
      go_roundg (n2 - (j + 1))
      case measure => omega
      case rel => go_light; exact ⟨j + 1, by omega, rfl, by go_num, HRR.out _ (by rw [HV.out]), hbel.setCell (Nat.le_refl _) _⟩
    · have e : n2 = j := by omega
      subst e
      go_wp2
      go_ret
      exact ⟨rfl, Row.of_rowIs ht.out, hbel⟩

/-- ZZClaimCounts hands on what counts gives. -/
def ZZPost (w : World) (n1 : Nat) (F : Nat → Int) (e : Ending) (w' : World) : Prop :=
  ∃ a, e = .returned (.slice (some a) n1 n1) ∧ Row .i64 w' (some a) n1 F ∧ Below w.heap.size w w'

set_option maxHeartbeats 1000000 in
theorem zz_gone (w : World) (a0 a1 a2 a3 : Option Addr) (n0 n1 n2 n3 c0 c1 c2 c3 : Nat) (g S q : Nat → Int)
    (l0 : n0 ≤ 65536) (l1 : n1 ≤ 65536) (l3 : n3 ≤ 65536) (h0 : a0.isNone = false) (h2 : a2.isNone = false) (h3 : a3.isNone = false)
    (r0 : Row .i32 w a0 n0 g) (r1 : Row .i64 w a1 n1 S) (r3 : Row .i64 w a3 n3 q)
    (hg : ∀ x, x < n0 → 0 ≤ g x ∧ g x < n1) (hq : ∀ i, i < n3 → 0 ≤ q i ∧ q i < n0) (hS : ∀ c, c < n1 → 0 ≤ S c ∧ S c ≤ 65536) :
    Calls Try.prog 25 #[.slice a0 n0 c0, .slice a1 n1 c1, .slice a2 n2 c2, .slice a3 n3 c3] w (ZZPost w n1 (fun c => S c + (-1) * (cnt (qcl g q c) n3 : Nat))) := by
  have HG : Hid (Row .i32 w a0 n0 g ∧ Row .i64 w a1 n1 S ∧ Row .i64 w a3 n3 q ∧ (∀ x, x < n0 → 0 ≤ g x ∧ g x < n1) ∧ (∀ i, i < n3 → 0 ≤ q i ∧ q i < n0) ∧ ∀ c, c < n1 → 0 ≤ S c ∧ S c ≤ 65536) := ⟨r0, r1, r3, hg, hq, hS⟩
  clear r0 r1 r3 hg hq hS
  have hbA : ∀ O, Below w.heap.size w (w.alloc O) := fun O => (Below.refl _ _).alloc (Nat.le_refl _) _
  go_enter Try.func25, Try.ntmps25
  go_wp2_with fail
  refine (counts_gone _ w.heap.size a0 a1 a2 a3 n0 n1 n2 n3 c0 c1 c2 c3 g S q l0 l1 l3 h0 h2 h3 (by simp) (by simp) (HG.out.1.below (hbA _)) (HG.out.2.1.below (hbA _)) (HG.out.2.2.1.below (hbA _)) HG.out.2.2.2.1 HG.out.2.2.2.2.1 HG.out.2.2.2.2.2).mono ?_
  rintro e w' ⟨rfl, hr, hb⟩
  have HR := (show Hid (Row .i64 w' _ n1 _ ∧ _) from ⟨hr, hb⟩)
  clear hr hb
  go_wp2
  go_ret
  exact ⟨_, rfl, by have := HR.out.1; rw [World.size_alloc] at this; exact this, bthen (hbA _) HR.out.2⟩

set_option maxHeartbeats 1000000 in
theorem zz_ids (w : World) (a0 a1 a2 : Option Addr) (n0 n1 n2 c0 c1 c2 : Nat) (g p : Nat → Int)
    (l0 : n0 ≤ 65536) (l1 : n1 ≤ 65536) (l2 : n2 ≤ 65536) (h0 : a0.isNone = false) (h2 : a2.isNone = false)
    (r0 : Row .i32 w a0 n0 g) (r2 : Row .i64 w a2 n2 p)
    (hg : ∀ x, x < n0 → 0 ≤ g x ∧ g x < n1) (hp : ∀ i, i < n2 → 0 ≤ p i ∧ p i < n0) :
    Calls Try.prog 25 #[.slice a0 n0 c0, .slice a1 n1 c1, .slice a2 n2 c2, .slice none 0 0] w (ZZPost w n1 (fun c => 0 + 1 * (cnt (qcl g p c) n2 : Nat))) := by
  have HG : Hid (Row .i32 w a0 n0 g ∧ Row .i64 w a2 n2 p ∧ (∀ x, x < n0 → 0 ≤ g x ∧ g x < n1) ∧ (∀ i, i < n2 → 0 ≤ p i ∧ p i < n0)) := ⟨r0, r2, hg, hp⟩
  clear r0 r2 hg hp
  have hbA : ∀ O, Below w.heap.size w (w.alloc O) := fun O => (Below.refl _ _).alloc (Nat.le_refl _) _
  go_enter Try.func25, Try.ntmps25
  go_wp2_with fail
  refine (counts_ids _ w.heap.size a0 a1 a2 n0 n1 n2 c0 c1 c2 g p l0 l1 l2 h0 h2 (by simp) (by simp) (HG.out.1.below (hbA _)) (HG.out.2.1.below (hbA _)) HG.out.2.2.1 HG.out.2.2.2).mono ?_
  rintro e w' ⟨rfl, hr, hb⟩
  have HR := (show Hid (Row .i64 w' _ n1 _ ∧ _) from ⟨hr, hb⟩)
  clear hr hb
  go_wp2
  go_ret
  exact ⟨_, rfl, by have := HR.out.1; rw [World.size_alloc] at this; exact this, bthen (hbA _) HR.out.2⟩

end Go.Proofs.Qxb6601940a
