import Derived.Test.Qxb6601860aRa
namespace Go.Proofs.Qxb6601860a
open Go.RowKit
set_option linter.unusedVariables false

def RevPost (G : Gr) (w : World) (e : Ending) (w' : World) : Prop :=
  ∃ (fi pr : Nat → Nat) (M g1 g2 : Nat), e = .returned (.tuple #[.slice (some ⟨g1, 0, none⟩) (G.n + 1) (G.n + 1), .slice (some ⟨g2, 0, none⟩) M M]) ∧ Rev G fi pr M ∧
    Row .i64 w' (some ⟨g1, 0, none⟩) (G.n + 1) (fun x => ((fi x : Nat) : Int)) ∧ Row .i64 w' (some ⟨g2, 0, none⟩) M (fun p => ((pr p : Nat) : Int)) ∧ M ≤ 68719476736 ∧ Below w.heap.size w w'

def shift (f : Nat → Nat) (i : Nat) : Nat := if i = 0 then 0 else f (i - 1)
def pre (G : Gr) (j i : Nat) : Nat := if i ≤ j then fst G i else inn G G.deg (i - 1)

theorem pre_start (G : Gr) (i : Nat) : pre G 0 i = shift (inn G G.deg) i := by
  unfold pre shift
  by_cases e : i = 0
  · subst e; simp [fst, sumTo]
  · rw [if_neg (by omega), if_neg e]
theorem pre_step (G : Gr) (j i : Nat) : pre G (j + 1) i = if i = j + 1 then inn G G.deg j + fst G j else pre G j i := by
  unfold pre
  by_cases e : i = j + 1
  · subst e; rw [if_pos (Nat.le_refl _), if_pos rfl, fst_succ]; omega
  · rw [if_neg e]
    by_cases h : i ≤ j
    · rw [if_pos (by omega), if_pos h]
    · rw [if_neg (by omega), if_neg h]

structure PM (n M : Nat) (w2 w3 : World) (fl pr : Nat → Nat) (wr : World) : Prop where
  rowF : wr.rowIs w2.heap.size 3 n (fun x => .int .i64 ((fl x : Nat) : Int))
  rowP : wr.rowIs w3.heap.size 3 M (fun p => .int .i64 ((pr p : Nat) : Int))
  bel : Below w2.heap.size w2 wr

theorem PM.setP {n M : Nat} {w2 w3 : World} {fl pr : Nat → Nat} {wr : World} (h : PM n M w2 w3 fl pr wr) (hl : w2.heap.size < w3.heap.size) (p v : Nat) : PM n M w2 w3 fl (upd pr p v) (wr.setCell ⟨w3.heap.size, p, none⟩ (.int .i64 (v : Nat))) :=
  ⟨h.rowF.setOther (by show w2.heap.size ≠ w3.heap.size; omega) _, (h.rowP.set p _).congr (fun c hc => by
    show (if c = p then Value.int .i64 (v : Nat) else _) = .int .i64 ((upd pr p v c : Nat))
    unfold upd; split <;> rfl), h.bel.setCell (by show w2.heap.size ≤ w3.heap.size; omega) _⟩
theorem PM.setF {n M : Nat} {w2 w3 : World} {fl pr : Nat → Nat} {wr : World} (h : PM n M w2 w3 fl pr wr) (hl : w2.heap.size < w3.heap.size) (x z : Nat) : PM n M w2 w3 (upd fl x z) pr (wr.setCell ⟨w2.heap.size, x, none⟩ (.int .i64 (z : Nat))) :=
  ⟨(h.rowF.set x _).congr (fun c hc => by
    show (if c = x then Value.int .i64 (z : Nat) else _) = .int .i64 ((upd fl x z c : Nat))
    unfold upd; split <;> rfl), h.rowP.setOther (by show w3.heap.size ≠ w2.heap.size; omega) _, h.bel.setCell (Nat.le_refl _) _⟩

theorem make_succ (n : Nat) (hn : n ≤ 65536) (w : World) : (Instr.makeSlice 22 (.int .i64 ((n : Int) + 1)) (.int .i64 ((n : Int) + 1))).run Try.prog w = .ok (.slice (some ⟨w.heap.size, 0, none⟩) (n + 1) (n + 1)) (w.alloc (.cells (madeCells #[.int .i64 0] (n + 1)) 3)) := by
  have := run_make_row' (P := Try.prog) 22 3 (.int .i64 0) 8 Try.underlying22 Try.info3 rfl .i64 .i64 (n + 1) (by omega) (by omega) w
  rw [show (((n + 1 : Nat)) : Int) = (n : Int) + 1 by omega] at this
  exact this

set_option maxHeartbeats 4000000 in
set_option maxRecDepth 100000 in
theorem reverse_any (G : Gr) (w : World) (S : Option Addr) (cS : Nat) (hS : Small G) (hM : InMem w S G) :
    Calls Try.prog 28 #[.slice S G.n cS] w (RevPost G w) := by
  have hn := hS.n
  have HM : Hid (InMem w S G ∧ Small G) := ⟨hM, hS⟩
  clear hM hS
  generalize hnn : G.n = n at *
  have hmk1 := make_succ n hn
  have hmk := run_make_row' (P := Try.prog) 22 3 (.int .i64 0) 8 Try.underlying22 Try.info3 rfl .i64 .i64 n (by omega) (by omega)
  have H0 : Hid (CI G (fun _ => 0) 0 0 ∧ CM (n + 1) w (shift (inn G (fun _ => 0))) (w.alloc (.cells (madeCells #[.int .i64 0] (n + 1)) 3))) :=
    ⟨⟨fun u hu => by omega, rfl, fun _ _ => rfl⟩, (World.rowIs_made w (.int .i64 0) (n + 1) 3).congr (fun x _ => by unfold shift; split <;> simp [inn_start]), (Below.refl _ _).alloc (Nat.le_refl _) _⟩
  go_enter Try.func28, Try.ntmps28
  go_wp2
  go_loopg [6] n (fun k v6 wr => ∃ (j : Nat) (ptr : Nat → Nat), j ≤ n ∧ n - j = k ∧ v6 = .int .i64 j ∧ Hid (CI G ptr j 0 ∧ CM (n + 1) w (shift (inn G ptr)) wr))
  case atStart => exact ⟨0, fun _ => 0, by omega, rfl, rfl, H0⟩
  case round =>
    obtain ⟨j, ptr, hj, rfl, rfl, hR⟩ := hrel
    clear H0 hmk1
    by_cases hlt : j < n
    · clear hmk
      obtain ⟨sb, so, lx, lc, hSe, hsb, hl0, hlr⟩ := HM.out.1 j (hnn ▸ hlt)
      subst hSe
      have HL : Hid (Row .i64 w lx (G.deg j) (fun k => ((G.adj j k : Nat) : Int)) ∧ w.cell? ⟨sb, so + j, none⟩ = some (.slice lx (G.deg j) lc)) := ⟨hlr, hl0⟩
      clear hlr hl0
      have hdeg := HM.out.2.deg j (hnn ▸ hlt)
      generalize hdd : G.deg j = dj at *
      go_wp2
      go_loopg [7] dj (fun k v7 wr => ∃ (a : Nat) (ptr : Nat → Nat), a ≤ dj ∧ dj - a = k ∧ v7 = .int .i64 a ∧ Hid (CI G ptr j a ∧ CM (n + 1) w (shift (inn G ptr)) wr))
      case atStart => exact ⟨0, ptr, by omega, rfl, rfl, hR⟩
      case round =>
        clear hR
        obtain ⟨a, ptr, ha, rfl, rfl, hR⟩ := hrel
        have hbB := hR.out.2.bel
        have hl1 := (hbB.cell (p := ⟨sb, so + j, none⟩) hsb).trans HL.out.2
        by_cases hlt2 : a < dj
        · obtain ⟨lb, lo, hle, _, hlc⟩ := HL.out.1.below hbB a hlt2
          subst hle
          have hyn : G.adj j a < n := hnn ▸ HM.out.2.ok j (hnn ▸ hlt) a (hdd ▸ hlt2)
          have hlc2 : wr.cell? ⟨lb, lo + a, none⟩ = some (.int .i64 ((G.adj j a : Nat) : Int)) := hlc
          clear hlc
          have hile : inn G ptr (G.adj j a) ≤ 68719476736 := Nat.le_trans (inn_le (hR.out.1.leDeg (by omega)) _) (inn_bound HM.out.2 _)
          have m0 : wr.cell? ⟨w.heap.size, G.adj j a + 1, none⟩ = some (.int .i64 ((inn G ptr (G.adj j a) : Nat) : Int)) := hR.out.2.row.cell (i := G.adj j a + 1) (by omega)
          have m1 : wr.frozen? ⟨w.heap.size, G.adj j a + 1, none⟩ = false := hR.out.2.row.frozen (G.adj j a + 1)
          have R : Hid (CI G (upd ptr j (a + 1)) j (a + 1) ∧ CM (n + 1) w (shift (inn G (upd ptr j (a + 1)))) (wr.setCell ⟨w.heap.size, G.adj j a + 1, none⟩ (.int .i64 (((inn G ptr (G.adj j a) : Nat) : Int) + 1)))) :=
            ⟨hR.out.1.step, hR.out.2.set (G.adj j a + 1) (inn G ptr (G.adj j a) + 1) (fun y hy => by
              unfold shift
              by_cases e : y = 0
              · subst e; simp
              · rw [if_neg e, if_neg e, inn_step G ptr (hnn ▸ hlt) hR.out.1.at_]
                by_cases e2 : y = G.adj j a + 1
                · rw [if_pos (by omega), if_pos e2]
                · rw [if_neg (by omega), if_neg e2])⟩
          clear hR
          generalize inn G ptr (G.adj j a) = iy at *
          generalize G.adj j a = y at *
          go_wp2
          go_roundg (dj - (a + 1))
          case measure => omega
          case rel =>
            go_light
            exact ⟨a + 1, _, by omega, rfl, by go_num, R⟩
        · have e : dj = a := by omega
          subst e
          have R : Hid (CI G ptr (j + 1) 0 ∧ CM (n + 1) w (shift (inn G ptr)) wr) := ⟨CI.next (hdd.symm ▸ hR.out.1), hR.out.2⟩
          clear hR
          go_wp2
          go_roundg (n - (j + 1))
          case measure => omega
          case rel =>
            go_light
            exact ⟨j + 1, _, by omega, rfl, by go_num, R⟩
    · have e : n = j := by omega
      subst e
      have H1 : Hid (CM (n + 1) w (pre G 0) wr) :=
        ⟨hR.out.2.row.congr (fun x _ => by
          rw [pre_start]
          unfold shift inn
          split
          · rfl
          · rw [sumTo_congr (fun u hu => by rw [hR.out.1.lo u (hnn ▸ hu)])]), hR.out.2.bel⟩
      clear hR
      go_wp2
      go_loopg [9] n (fun k v9 wr => ∃ (j : Nat), j ≤ n ∧ n - j = k ∧ v9 = .int .i64 j ∧ Hid (CM (n + 1) w (pre G j) wr))
      case atStart => exact ⟨0, by omega, rfl, rfl, H1⟩
      case round =>
        clear H1
        obtain ⟨j, hj, rfl, rfl, hR⟩ := hrel
        by_cases hlt : j < n
        · clear hmk
          have m0 : wr.cell? ⟨w.heap.size, j, none⟩ = some (.int .i64 ((fst G j : Nat) : Int)) := by
            have := hR.out.row.cell (i := j) (by omega)
            simp only [pre, if_pos (Nat.le_refl j)] at this
            exact this
          have m1 : wr.cell? ⟨w.heap.size, j + 1, none⟩ = some (.int .i64 ((inn G G.deg j : Nat) : Int)) := by
            have := hR.out.row.cell (i := j + 1) (by omega)
            simp only [pre, if_neg (Nat.not_succ_le_self j), Nat.add_sub_cancel] at this
            exact this
          have m2 : wr.frozen? ⟨w.heap.size, j + 1, none⟩ = false := hR.out.row.frozen (j + 1)
          have b1 := fst_bound HM.out.2 (x := j) (by omega)
          have b2 := inn_bound HM.out.2 j
          have R := (show Hid _ from hR.out.set (J := pre G (j + 1)) (j + 1) (inn G G.deg j + fst G j) (fun y hy => pre_step G j y))
          clear hR
          generalize fst G j = fj at *
          generalize inn G G.deg j = ij at *
          rw [show (((ij + fj : Nat)) : Int) = (ij : Int) + (fj : Int) by omega] at R
          go_upto_region 14 with fail
          go_region
          have R2 : Hid (CM (n + 1) w (pre G (j + 1)) (wr.setCell ⟨w.heap.size, j + 1, none⟩ (.int .i64 ((ij : Int) + (fj : Int)))).drew) := ⟨R.out.row, R.out.bel.drew⟩
          clear R
          go_wp2
          go_roundg (n - (j + 1))
          case measure => omega
          case rel =>
            go_light
            exact ⟨j + 1, by omega, rfl, by go_num, R2⟩
        · have e : n = j := by omega
          subst e
          have H2 : Hid (wr.rowIs w.heap.size 3 (n + 1) (fun x => .int .i64 ((fst G x : Nat) : Int)) ∧ Below w.heap.size w wr) :=
            ⟨hR.out.row.congr (fun x hx => by simp only [pre, if_pos (show x ≤ n by omega)]), hR.out.bel⟩
          clear hR
          obtain ⟨w2, hw2⟩ : ∃ w2, w2 = wr := ⟨_, rfl⟩
          subst hw2
          have H3 : Hid (CM n w2 (fun _ => 0) (w2.alloc (.cells (madeCells #[.int .i64 0] n) 3))) := ⟨World.rowIs_made w2 (.int .i64 0) n 3, (Below.refl _ _).alloc (Nat.le_refl _) _⟩
          go_wp2
          go_loopg [11] n (fun k v11 wr => ∃ (j : Nat) (fl : Nat → Nat), j ≤ n ∧ n - j = k ∧ v11 = .int .i64 j ∧ Hid (CM n w2 fl wr ∧ ∀ x, x < j → fl x = fst G x))
          case atStart => exact ⟨0, fun _ => 0, by omega, rfl, rfl, ⟨H3.out, fun x hx => absurd hx (Nat.not_lt_zero _)⟩⟩
          case round =>
            clear H3 hmk
            obtain ⟨j, fl, hj, rfl, rfl, hR⟩ := hrel
            by_cases hlt : j < n
            · have m0 : wr.cell? ⟨w.heap.size, j, none⟩ = some (.int .i64 ((fst G j : Nat) : Int)) :=
                (hR.out.1.bel.cell (p := ⟨w.heap.size, j, none⟩) H2.out.1.lt).trans (H2.out.1.cell (i := j) (by omega))
              have m1 : wr.cell? ⟨w2.heap.size, j, none⟩ = some (.int .i64 ((fl j : Nat) : Int)) := hR.out.1.row.cell hlt
              have m2 : wr.frozen? ⟨w2.heap.size, j, none⟩ = false := hR.out.1.row.frozen j
              have R : Hid (CM n w2 (upd fl j (fst G j)) (wr.setCell ⟨w2.heap.size, j, none⟩ (.int .i64 ((fst G j : Nat) : Int))) ∧ ∀ x, x < j + 1 → upd fl j (fst G j) x = fst G x) :=
                ⟨hR.out.1.set j (fst G j) (fun y hy => rfl), fun x hx => by
                  by_cases e : x = j
                  · subst e; exact upd_same _ _ _
                  · rw [upd_ne _ _ e]; exact hR.out.2 x (by omega)⟩
              clear hR
              generalize fst G j = fj at *
              go_wp2
              go_roundg (n - (j + 1))
              case measure => omega
              case rel =>
                go_light
                exact ⟨j + 1, _, by omega, rfl, by go_num, R⟩
            · have e : n = j := by omega
              subst e
              have m0 : wr.cell? ⟨w.heap.size, n, none⟩ = some (.int .i64 ((fst G n : Nat) : Int)) :=
                (hR.out.1.bel.cell (p := ⟨w.heap.size, n, none⟩) H2.out.1.lt).trans (H2.out.1.cell (i := n) (by omega))
              have hMb := fst_bound HM.out.2 (x := n) (by omega)
              obtain ⟨w3, hw3⟩ : ∃ w3, w3 = wr := ⟨_, rfl⟩
              subst hw3
              have hl23 : w2.heap.size < w3.heap.size := hR.out.1.row.lt
              generalize hMM : fst G n = M at *
              have H4 : Hid (CI G (fun _ => 0) 0 0 ∧ RI G (fun _ => 0) fl (fun _ => 0) ∧ PM n M w2 w3 fl (fun _ => 0) (w3.alloc (.cells (madeCells #[.int .i64 0] M) 3))) :=
                ⟨⟨fun u hu => by omega, rfl, fun _ _ => rfl⟩, RI.start (fun x hx => hR.out.2 x (hnn ▸ hx)), hR.out.1.row.of_block (Below.heap_alloc _ _ _ hl23), World.rowIs_made w3 (.int .i64 0) M 3, hR.out.1.bel.alloc (by omega) _⟩
              clear hR
              have hmk := run_make_row' (P := Try.prog) 22 3 (.int .i64 0) 8 Try.underlying22 Try.info3 rfl .i64 .i64 M (by omega) (by omega)
              go_wp2
              go_loopg [13] n (fun k v13 wr => ∃ (j : Nat) (ptr fl pr : Nat → Nat), j ≤ n ∧ n - j = k ∧ v13 = .int .i64 j ∧ Hid (CI G ptr j 0 ∧ RI G ptr fl pr ∧ PM n M w2 w3 fl pr wr))
              case atStart => exact ⟨0, fun _ => 0, fl, fun _ => 0, by omega, rfl, rfl, H4⟩
              case round =>
                clear H4 hmk m0
                obtain ⟨j, ptr, fl, pr, hj, rfl, rfl, hR⟩ := hrel
                by_cases hlt : j < n
                · obtain ⟨sb, so, lx, lc, hSe, hsb, hl0, hlr⟩ := HM.out.1.below H2.out.2 j (hnn ▸ hlt)
                  subst hSe
                  have HL : Hid (Row .i64 w2 lx (G.deg j) (fun k => ((G.adj j k : Nat) : Int)) ∧ w2.cell? ⟨sb, so + j, none⟩ = some (.slice lx (G.deg j) lc)) := ⟨hlr, hl0⟩
                  clear hlr hl0
                  have hdeg := HM.out.2.deg j (hnn ▸ hlt)
                  generalize hdd : G.deg j = dj at *
                  go_wp2
                  go_loopg [14] dj (fun k v14 wr => ∃ (a : Nat) (ptr fl pr : Nat → Nat), a ≤ dj ∧ dj - a = k ∧ v14 = .int .i64 a ∧ Hid (CI G ptr j a ∧ RI G ptr fl pr ∧ PM n M w2 w3 fl pr wr))
                  case atStart => exact ⟨0, ptr, fl, pr, by omega, rfl, rfl, hR⟩
                  case round =>
                    clear hR
                    obtain ⟨a, ptr, fl, pr, ha, rfl, rfl, hR⟩ := hrel
                    have hbB := hR.out.2.2.bel
                    have hl1 := (hbB.cell (p := ⟨sb, so + j, none⟩) hsb).trans HL.out.2
                    by_cases hlt2 : a < dj
                    · obtain ⟨lb, lo, hle, _, hlc⟩ := HL.out.1.below hbB a hlt2
                      subst hle
                      have hyn : G.adj j a < n := hnn ▸ HM.out.2.ok j (hnn ▸ hlt) a (hdd ▸ hlt2)
                      have hlc2 : wr.cell? ⟨lb, lo + a, none⟩ = some (.int .i64 ((G.adj j a : Nat) : Int)) := hlc
                      clear hlc
                      have hroom := hR.out.2.1.room HM.out.2.ok (hnn ▸ hlt) hR.out.1 (hdd ▸ hlt2)
                      have hroom2 : fl (G.adj j a) < M := by
                        have := fst_mono G (x := G.adj j a + 1) (y := n) (by omega)
                        omega
                      have m1 : wr.cell? ⟨w2.heap.size, G.adj j a, none⟩ = some (.int .i64 ((fl (G.adj j a) : Nat) : Int)) := hR.out.2.2.rowF.cell hyn
                      have m3 : wr.cell? ⟨w3.heap.size, fl (G.adj j a), none⟩ = some (.int .i64 ((pr (fl (G.adj j a)) : Nat) : Int)) := hR.out.2.2.rowP.cell hroom2
                      have m4 : wr.frozen? ⟨w3.heap.size, fl (G.adj j a), none⟩ = false := hR.out.2.2.rowP.frozen _
                      have HI : Hid (CI G (upd ptr j (a + 1)) j (a + 1) ∧ RI G (upd ptr j (a + 1)) (upd fl (G.adj j a) (fl (G.adj j a) + 1)) (upd pr (fl (G.adj j a)) j)) :=
                        ⟨hR.out.1.step, hR.out.2.1.step HM.out.2.ok (hnn ▸ hlt) hR.out.1 (hdd ▸ hlt2)⟩
                      have HP := (show Hid _ from hR.out.2.2.setP hl23 (fl (G.adj j a)) j)
                      clear hR hroom
                      generalize G.adj j a = y at *
                      generalize hfy : fl y = fy at *
                      go_upto_region 29 with fail
                      generalize wr.setCell ⟨w3.heap.size, fy, none⟩ (.int .i64 (j : Int)) = w5 at *
                      have m5 : w5.cell? ⟨w2.heap.size, y, none⟩ = some (.int .i64 ((fy : Nat) : Int)) := by rw [← hfy]; exact HP.out.rowF.cell hyn
                      have m6 : w5.frozen? ⟨w2.heap.size, y, none⟩ = false := HP.out.rowF.frozen y
                      have HQ := HP.out.setF hl23 y (fy + 1)
                      rw [show (((fy + 1 : Nat)) : Int) = (fy : Int) + 1 by omega] at HQ
                      have R : Hid (CI G (upd ptr j (a + 1)) j (a + 1) ∧ RI G (upd ptr j (a + 1)) (upd fl y (fy + 1)) (upd pr fy j) ∧ PM n M w2 w3 (upd fl y (fy + 1)) (upd pr fy j) (w5.setCell ⟨w2.heap.size, y, none⟩ (.int .i64 ((fy : Int) + 1)))) := ⟨HI.out.1, HI.out.2, HQ⟩
                      clear HP HQ HI m1 m3 m4
                      go_wp2
                      go_roundg (dj - (a + 1))
                      case measure => omega
                      case rel =>
                        go_light
                        exact ⟨a + 1, _, _, _, by omega, rfl, by go_num, R⟩
                    · have e : dj = a := by omega
                      subst e
                      have R : Hid (CI G ptr (j + 1) 0 ∧ RI G ptr fl pr ∧ PM n M w2 w3 fl pr wr) := ⟨CI.next (hdd.symm ▸ hR.out.1), hR.out.2⟩
                      clear hR
                      go_wp2
                      go_roundg (n - (j + 1))
                      case measure => omega
                      case rel =>
                        go_light
                        exact ⟨j + 1, _, _, _, by omega, rfl, by go_num, R⟩
                · have e : n = j := by omega
                  subst e
                  have HF : Hid (Rev G (fst G) pr M ∧ Row .i64 wr (some ⟨w.heap.size, 0, none⟩) (n + 1) (fun x => ((fst G x : Nat) : Int)) ∧ Row .i64 wr (some ⟨w3.heap.size, 0, none⟩) M (fun p => ((pr p : Nat) : Int)) ∧ Below w.heap.size w wr) := by
                    refine ⟨?_, (Row.of_rowIs H2.out.1).below hR.out.2.2.bel, Row.of_rowIs hR.out.2.2.rowP, bthen H2.out.2 hR.out.2.2.bel⟩
                    have := hR.out.2.1.ends HM.out.2.ok (fun u hu => hR.out.1.lo u (hnn ▸ hu))
                    rw [hnn, hMM] at this
                    exact this
                  clear hR
                  go_wp2
                  go_ret2
                  exact ⟨fst G, pr, M, w.heap.size, w3.heap.size, by rw [hnn]; rfl, HF.out.1, by rw [hnn]; exact HF.out.2.1, HF.out.2.2.1, hMb, HF.out.2.2.2⟩
end Go.Proofs.Qxb6601860a
