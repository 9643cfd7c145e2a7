import Derived.Test.Qxb6601806aWc
namespace Go.Proofs.Qxb6601806a
open Go.RowKit

/-- The cells of n PCR values lie from ⟨b, o⟩ on; each digest's bytes in a block from L on. -/
def PVs (w : World) (L b o n : Nat) (Bk Pc : Nat → Int) (N : Nat → Nat) (F : Nat → Nat → Int) : Prop :=
  ∀ i, i < n → w.cell? ⟨b, o + i * 3, none⟩ = some (.int .u16 (Bk i)) ∧ w.cell? ⟨b, o + i * 3 + 1, none⟩ = some (.int .u32 (Pc i)) ∧
    ∃ x c, w.cell? ⟨b, o + i * 3 + 2, none⟩ = some (.slice x (N i) c) ∧ ByteRow w L (.slice x (N i) c) (N i) (F i)

theorem PVs.below {w w' : World} {L b o n : Nat} {Bk Pc : Nat → Int} {N : Nat → Nat} {F : Nat → Nat → Int} (h : PVs w L b o n Bk Pc N F) (hb : Below w.heap.size w w') : PVs w' L b o n Bk Pc N F := by
  intro i hi
  obtain ⟨h0, h1, x, c, h2, hr⟩ := h i hi
  have hlt : b < w.heap.size := World.block_lt_of_cell? w ⟨b, o + i * 3, none⟩ h0
  exact ⟨(hb.cell (p := ⟨b, o + i * 3, none⟩) hlt).trans h0, (hb.cell (p := ⟨b, o + i * 3 + 1, none⟩) hlt).trans h1, x, c, (hb.cell (p := ⟨b, o + i * 3 + 2, none⟩) hlt).trans h2, hr.below hb⟩

def z3 : Array Value := #[.int .u16 0, .int .u32 0, .slice none 0 0]

theorem make3 (t e : TypeId) (ht : Try.prog.underlying t = some (.slice e)) (hinfo : (Try.prog.info? e).map (fun i => (i.zero, i.size, i.bytes)) = some (some (.agg #[.int .u16 0, .int .u32 0, .slice none 0 0]), 3, 32))
    (n : Nat) (hn : n ≤ 1048576) (w : World) :
    (Instr.makeSlice t (.int .i64 (n : Int)) (.int .i64 (n : Int))).run Try.prog w = .ok (.slice (some ⟨w.heap.size, 0, none⟩) n n) (w.alloc (.cells (madeCells z3 (n * 3)) e)) := by
  obtain ⟨i, hi, hzz⟩ := Option.map_eq_some_iff.1 hinfo
  simp only [Prod.mk.injEq] at hzz
  obtain ⟨hz, hs, hb⟩ := hzz
  have hr := run_make (P := Try.prog) w t e i _ ht hi hz .i64 .i64 n n (by omega) (Int.le_refl _) (by rw [hb]; omega) (by omega)
  simp only [Int.toNat_natCast, hs, Value.cells] at hr
  exact hr

theorem rowIs_made3 (w : World) (n t : Nat) : (w.alloc (.cells (madeCells z3 n) t)).rowIs w.heap.size t n (fun i => z3[i % z3.size]!) :=
  ⟨_, Go.Deep.blk_alloc_new _ _, size_madeCells _ _, fun i hi => by simp [madeCells, hi]⟩

/-- What the loops of clonePVs and toValues have done after j rounds. -/
def Cloned (w : World) (ob t n j : Nat) (Bk Pc : Nat → Int) (N : Nat → Nat) (F : Nat → Nat → Int) : Prop :=
  ∃ g, w.rowIs ob t (n * 3) g ∧ ∀ i, i < j → g (i * 3) = .int .u16 (Bk i) ∧ g (i * 3 + 1) = .int .u32 (Pc i) ∧ ∃ x c, g (i * 3 + 2) = .slice x (N i) c ∧ ByteRow w (ob + 1) (.slice x (N i) c) (N i) (F i)

theorem Cloned.done {w : World} {ob t n : Nat} {Bk Pc : Nat → Int} {N : Nat → Nat} {F : Nat → Nat → Int} (h : Cloned w ob t n n Bk Pc N F) : PVs w (ob + 1) ob 0 n Bk Pc N F := by
  obtain ⟨g, hr, hg⟩ := h
  intro i hi
  obtain ⟨h0, h1, x, c, h2, hb⟩ := hg i hi
  refine ⟨?_, ?_, x, c, ?_, hb⟩
  · rw [Nat.zero_add, hr.cell (by omega), h0]
  · rw [Nat.zero_add, hr.cell (by omega), h1]
  · rw [Nat.zero_add, hr.cell (by omega), h2]

theorem Cloned.step {w w1 : World} {ob t n j : Nat} {Bk Pc : Nat → Int} {N : Nat → Nat} {F : Nat → Nat → Int} (h : Cloned w ob t n j Bk Pc N F) (hob : ob < w.heap.size) (hb : Below w.heap.size w w1)
    {x : Option Addr} {c : Nat} (hrow : ByteRow w1 w.heap.size (.slice x (N j) c) (N j) (F j)) :
    Cloned (((w1.setCell ⟨ob, j * 3, none⟩ (.int .u16 (Bk j))).setCell ⟨ob, j * 3 + 1, none⟩ (.int .u32 (Pc j))).setCell ⟨ob, j * 3 + 2, none⟩ (.slice x (N j) c)) ob t n (j + 1) Bk Pc N F := by
  obtain ⟨g, hr, hg⟩ := h
  have hr1 : w1.rowIs ob t (n * 3) g := hr.of_block (hb.block ob hob)
  refine ⟨_, ((hr1.set (j * 3) _).set (j * 3 + 1) _).set (j * 3 + 2) _, ?_⟩
  intro i hi
  by_cases e : i = j
  · subst e
    refine ⟨by simp, by simp, x, c, by simp, ?_⟩
    exact (((hrow.lower (L' := ob + 1) hob).setCell (by simp) _).setCell (by simp) _).setCell (by simp) _
  · obtain ⟨h0, h1, x', c', h2, hb'⟩ := hg i (by omega)
    refine ⟨?_, ?_, x', c', ?_, ((((hb'.below hb)).setCell (by simp) _).setCell (by simp) _).setCell (by simp) _⟩
    · rw [if_neg (by omega), if_neg (by omega), if_neg (by omega), h0]
    · rw [if_neg (by omega), if_neg (by omega), if_neg (by omega), h1]
    · rw [if_neg (by omega), if_neg (by omega), if_neg (by omega), h2]

set_option maxHeartbeats 400000 in
theorem clonePVs_nil (w : World) :
    Calls Try.prog 18 #[.slice none 0 0] w fun e w' => e = .returned (.slice none 0 0) ∧ w' = w := by
  have hn := fun (w : World) (a : Option Addr) (n c n' c' : Nat) => Lib.run_eql_slice_nil (P := Try.prog) w 41 76 a n c n' c' Try.underlying41
  go_enter Try.func18, Try.ntmps18
  go_wp2
  go_ret
  exact ⟨rfl, rfl⟩

set_option maxHeartbeats 400000 in
theorem toValues_nil (w : World) :
    Calls Try.prog 20 #[.slice none 0 0] w fun e w' => e = .returned (.slice none 0 0) ∧ w' = w := by
  have hn := fun (w : World) (a : Option Addr) (n c n' c' : Nat) => Lib.run_eql_slice_nil (P := Try.prog) w 41 76 a n c n' c' Try.underlying41
  go_enter Try.func20, Try.ntmps20
  go_wp2
  go_ret
  exact ⟨rfl, rfl⟩

set_option maxHeartbeats 1000000 in
theorem clonePVs_some (w : World) (L b o n c : Nat) (sp : Option Nat) (Bk Pc : Nat → Int) (N : Nat → Nat) (F : Nat → Nat → Int) (hsp : 0 < n → sp = none) (hn : n ≤ 1048576) (hN : ∀ i, i < n → N i ≤ 1048576) (h : PVs w L b o n Bk Pc N F) :
    Calls Try.prog 18 #[.slice (some ⟨b, o, sp⟩) n c] w fun e w' => e = .returned (.slice (some ⟨w.heap.size, 0, none⟩) n n) ∧ PVs w' (w.heap.size + 1) w.heap.size 0 n Bk Pc N F ∧ Below w.heap.size w w' := by
  have hnil := fun (w : World) (a : Option Addr) (n c n' c' : Nat) => Lib.run_eql_slice_nil (P := Try.prog) w 41 76 a n c n' c' Try.underlying41
  have hmk := make3 41 76 Try.underlying41 Try.info76 n hn
  have hst : Cloned (w.alloc (.cells (madeCells z3 (n * 3)) 76)) w.heap.size 76 n 0 Bk Pc N F := ⟨_, rowIs_made3 w _ _, fun i hi => by omega⟩
  have HP : Hid (PVs w L b o n Bk Pc N F) := h
  clear h
  go_enter Try.func18, Try.ntmps18
  go_wp2
  go_loopg [4] n (fun k i wr => ∃ j : Nat, j ≤ n ∧ k = n - j ∧ i = .int .i64 j ∧ Hid (Cloned wr w.heap.size 76 n j Bk Pc N F) ∧ w.heap.size < wr.heap.size ∧ Below w.heap.size w wr)
  case atStart => exact ⟨0, by omega, by omega, rfl, hst, by simp, (Below.refl _ _).alloc (Nat.le_refl _) _⟩
  case round =>
    obtain ⟨j, hj, rfl, rfl, hcl, hsz, hbel⟩ := hrel
    clear hmk hst
    by_cases hlt : j < n
    · have hs0 := hsp (by omega)
      subst hs0
      obtain ⟨h0, h1, x, c', h2, hrow⟩ := HP.out j hlt
      have hNj := hN j hlt
      have hbw : b < w.heap.size := World.block_lt_of_cell? w ⟨b, o + j * 3, none⟩ h0
      have g0 : wr.cell? ⟨b, o + j * 3, none⟩ = some (.int .u16 (Bk j)) := (hbel.cell (p := ⟨b, o + j * 3, none⟩) hbw).trans h0
      have g1 : wr.cell? ⟨b, o + j * 3 + 1, none⟩ = some (.int .u32 (Pc j)) := (hbel.cell (p := ⟨b, o + j * 3 + 1, none⟩) hbw).trans h1
      have g2 : wr.cell? ⟨b, o + j * 3 + 2, none⟩ = some (.slice x (N j) c') := (hbel.cell (p := ⟨b, o + j * 3 + 2, none⟩) hbw).trans h2
      clear h0 h1 h2
      have hltI : (j : Int) < (n : Int) := by omega
      have hne : w.heap.size ≠ b := by omega
      obtain ⟨g, hg, _⟩ := id hcl.out
      go_wp2
      go_region_held3 (fun w' => w'.cell? ⟨b, o + j * 3, none⟩ = some (.int .u16 (Bk j)) ∧ w'.cell? ⟨b, o + j * 3 + 1, none⟩ = some (.int .u32 (Pc j)) ∧ w'.cell? ⟨b, o + j * 3 + 2, none⟩ = some (.slice x (N j) c')) (go_keep)
        (first
          | (go_at_call 30; refine (cloneBytes_any _ L _ _ (F j) hNj (by exact (hrow.below hbel.drew))).mono ?_; rintro e w1 ⟨x1, c1, rfl, hrow1, hb1⟩; have k0 := (hb1.cell (p := ⟨b, o + j * 3, none⟩) (by simp; omega)).trans g0; have k1 := (hb1.cell (p := ⟨b, o + j * 3 + 1, none⟩) (by simp; omega)).trans g1; have k2 := (hb1.cell (p := ⟨b, o + j * 3 + 2, none⟩) (by simp; omega)).trans g2; have r1 := hg.of_block (hb1.block w.heap.size hsz); have m0 := r1.cell (i := j * 3) (by omega); have m1 := r1.cell (i := j * 3 + 1) (by omega); have m2 := r1.cell (i := j * 3 + 2) (by omega); have f0 := r1.frozen (j * 3); have f1 := r1.frozen (j * 3 + 1); have f2 := r1.frozen (j * 3 + 2)))
      have hb1' : Below wr.heap.size wr w1 := ⟨hb1.os, hb1.tape, hb1.output, hb1.size, hb1.block⟩
      have R := Cloned.step hcl.out hsz hb1' hrow1
      have hb2 : Below w.heap.size w w1 := hbel.trans (hb1'.mono (Nat.le_of_lt hsz))
      have hs1 := hb1.size
      clear k0 k1 k2 r1 m0 m1 m2 f0 f1 f2
      go_wp2
      go_roundg (n - (j + 1))
      case measure => omega
      case rel =>
        go_light
        exact ⟨j + 1, by omega, rfl, by go_num, R, by simp at hs1 ⊢; omega, ((hb2.setCell (Nat.le_refl _) _).setCell (Nat.le_refl _) _).setCell (Nat.le_refl _) _⟩
    · have e : j = n := by omega
      subst e
      go_wp2
      go_ret
      exact ⟨rfl, hcl.out.done, hbel⟩

set_option maxHeartbeats 1000000 in
theorem toValues_some (w : World) (L b o n c : Nat) (sp : Option Nat) (Bk Pc : Nat → Int) (N : Nat → Nat) (F : Nat → Nat → Int) (hsp : 0 < n → sp = none) (hn : n ≤ 1048576) (hN : ∀ i, i < n → N i ≤ 1048576) (h : PVs w L b o n Bk Pc N F) :
    Calls Try.prog 20 #[.slice (some ⟨b, o, sp⟩) n c] w fun e w' => e = .returned (.slice (some ⟨w.heap.size, 0, none⟩) n n) ∧ PVs w' (w.heap.size + 1) w.heap.size 0 n Bk Pc N F ∧ Below w.heap.size w w' := by
  have hnil := fun (w : World) (a : Option Addr) (n c n' c' : Nat) => Lib.run_eql_slice_nil (P := Try.prog) w 41 76 a n c n' c' Try.underlying41
  have hmk := make3 48 78 Try.underlying48 Try.info78 n hn
  have hst : Cloned (w.alloc (.cells (madeCells z3 (n * 3)) 78)) w.heap.size 78 n 0 Bk Pc N F := ⟨_, rowIs_made3 w _ _, fun i hi => by omega⟩
  have HP : Hid (PVs w L b o n Bk Pc N F) := h
  clear h
  go_enter Try.func20, Try.ntmps20
  go_wp2
  go_loopg [4] n (fun k i wr => ∃ j : Nat, j ≤ n ∧ k = n - j ∧ i = .int .i64 j ∧ Hid (Cloned wr w.heap.size 78 n j Bk Pc N F) ∧ w.heap.size < wr.heap.size ∧ Below w.heap.size w wr)
  case atStart => exact ⟨0, by omega, by omega, rfl, hst, by simp, (Below.refl _ _).alloc (Nat.le_refl _) _⟩
  case round =>
    obtain ⟨j, hj, rfl, rfl, hcl, hsz, hbel⟩ := hrel
    clear hmk hst
    by_cases hlt : j < n
    · have hs0 := hsp (by omega)
      subst hs0
      obtain ⟨h0, h1, x, c', h2, hrow⟩ := HP.out j hlt
      have hNj := hN j hlt
      have hbw : b < w.heap.size := World.block_lt_of_cell? w ⟨b, o + j * 3, none⟩ h0
      have g0 : wr.cell? ⟨b, o + j * 3, none⟩ = some (.int .u16 (Bk j)) := (hbel.cell (p := ⟨b, o + j * 3, none⟩) hbw).trans h0
      have g1 : wr.cell? ⟨b, o + j * 3 + 1, none⟩ = some (.int .u32 (Pc j)) := (hbel.cell (p := ⟨b, o + j * 3 + 1, none⟩) hbw).trans h1
      have g2 : wr.cell? ⟨b, o + j * 3 + 2, none⟩ = some (.slice x (N j) c') := (hbel.cell (p := ⟨b, o + j * 3 + 2, none⟩) hbw).trans h2
      clear h0 h1 h2
      have hltI : (j : Int) < (n : Int) := by omega
      have hne : w.heap.size ≠ b := by omega
      obtain ⟨g, hg, _⟩ := id hcl.out
      go_wp2
      go_region_held3 (fun w' => w'.cell? ⟨b, o + j * 3, none⟩ = some (.int .u16 (Bk j)) ∧ w'.cell? ⟨b, o + j * 3 + 1, none⟩ = some (.int .u32 (Pc j)) ∧ w'.cell? ⟨b, o + j * 3 + 2, none⟩ = some (.slice x (N j) c')) (go_keep)
        (first
          | (go_at_call 30; refine (cloneBytes_any _ L _ _ (F j) hNj (by exact (hrow.below hbel.drew))).mono ?_; rintro e w1 ⟨x1, c1, rfl, hrow1, hb1⟩; have k0 := (hb1.cell (p := ⟨b, o + j * 3, none⟩) (by simp; omega)).trans g0; have k1 := (hb1.cell (p := ⟨b, o + j * 3 + 1, none⟩) (by simp; omega)).trans g1; have k2 := (hb1.cell (p := ⟨b, o + j * 3 + 2, none⟩) (by simp; omega)).trans g2; have r1 := hg.of_block (hb1.block w.heap.size hsz); have m0 := r1.cell (i := j * 3) (by omega); have m1 := r1.cell (i := j * 3 + 1) (by omega); have m2 := r1.cell (i := j * 3 + 2) (by omega); have f0 := r1.frozen (j * 3); have f1 := r1.frozen (j * 3 + 1); have f2 := r1.frozen (j * 3 + 2)))
      have hb1' : Below wr.heap.size wr w1 := ⟨hb1.os, hb1.tape, hb1.output, hb1.size, hb1.block⟩
      have R := Cloned.step hcl.out hsz hb1' hrow1
      have hb2 : Below w.heap.size w w1 := hbel.trans (hb1'.mono (Nat.le_of_lt hsz))
      have hs1 := hb1.size
      clear k0 k1 k2 r1 m0 m1 m2 f0 f1 f2
      go_wp2
      go_roundg (n - (j + 1))
      case measure => omega
      case rel =>
        go_light
        exact ⟨j + 1, by omega, rfl, by go_num, R, by simp at hs1 ⊢; omega, ((hb2.setCell (Nat.le_refl _) _).setCell (Nat.le_refl _) _).setCell (Nat.le_refl _) _⟩
    · have e : j = n := by omega
      subst e
      go_wp2
      go_ret
      exact ⟨rfl, hcl.out.done, hbel⟩

end Go.Proofs.Qxb6601806a
