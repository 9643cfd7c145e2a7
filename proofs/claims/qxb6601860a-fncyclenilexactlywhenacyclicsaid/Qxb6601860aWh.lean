import Derived.Test.Qxb6601860aKb
namespace Go.Proofs.Qxb6601860a
open Go.RowKit
set_option linter.unusedVariables false

set_option maxHeartbeats 4000000 in
set_option maxRecDepth 100000 in
theorem law7_any (w : World) (a0 a : Option Addr) (n0 c0 n c : Nat) (f : Nat → Int) (D : Nat → Nat) (F : Nat → Nat → Int)
    (hz0 : a0.isNone = true → n0 = 0) (hR0 : Row .i64 w a0 n0 f) (hz : a.isNone = true → n = 0) (hL : ListsN w a n D F) :
    Calls Try.prog 7 #[.slice a0 n0 c0, .slice a n c] w (LawPost w) := by
  have H : Hid ((a0.isNone = true → n0 = 0) ∧ Row .i64 w a0 n0 f ∧ (a.isNone = true → n = 0) ∧ ListsN w a n D F) := ⟨hz0, hR0, hz, hL⟩
  clear hz0 hR0 hz hL
  have hnil := nil22
  have hbr : Below w.heap.size w w := Below.refl _ _
  go_enter Try.func7, Try.ntmps7
  go_wp2_with fail
  refine (zzBytes24 w a0 a n0 c0 n c D F H.out.2.2.2.lists).mono ?_
  rintro e w1 ⟨r, rfl, rfl, hr⟩
  cases r with
  | false =>
    clear hr
    go_wp2
    go_ret
    exact ⟨rfl, hbr⟩
  | true =>
    obtain ⟨h1, h2, h3⟩ := hr rfl
    have HD : Hid (∀ v, v < n → D v ≤ 1048576) := h3
    clear hr h3
    by_cases hb0 : 65536 < n0
    · have hbI : (65536 : Int) < (n0 : Int) := by omega
      go_wp2
      go_ret
      exact ⟨rfl, hbr⟩
    · by_cases hb : 65536 < n
      · have hbI : (65536 : Int) < (n : Int) := by omega
        go_wp2
        go_ret
        exact ⟨rfl, hbr⟩
      · go_wp2_with fail
        refine (fits_any w _ a n c D F (by omega) (by omega) (by omega) HD.out H.out.2.2.2.lists).mono ?_
        rintro e w1 ⟨r, rfl, rfl⟩
        cases r with
        | false =>
          go_wp2
          go_ret
          exact ⟨rfl, hbr⟩
        | true =>
          by_cases hne : n0 = n
          · subst hne
            have hneB : ((n0 : Int) != (n0 : Int)) = false := by simp
            go_wp2_with fail
            refine (range_any w a n0 c D F false (by omega) HD.out H.out.2.2.2.lists).mono ?_
            rintro e w1 ⟨r, rfl, hb1, hr⟩
            cases r with
            | false =>
              clear hr hbr
              go_wp2
              go_ret
              exact ⟨rfl, hb1⟩
            | true =>
              have HR : Hid (∀ v, v < n0 → InRange n0 D F false v (D v)) := hr rfl
              clear hr hbr
              have hn : n0 ≤ 65536 := by omega
              clear h1 h2 hb0 hb hneB
              go_wp2_with fail
              refine (cloneInts_any w1 a0 n0 c0 f (by omega) H.out.1 (H.out.2.1.below hb1)).mono ?_
              rintro e w2 ⟨a2, c2, rfl, _, _, hr2, hb2⟩
              have HT2 : Hid (Row .i64 w2 a2 n0 f) := hr2
              clear hr2
              go_wp2_with fail
              refine (cloneLists_any w2 a n0 c D F hn H.out.2.2.1 HD.out (H.out.2.2.2.below (bthen hb1 hb2))).mono ?_
              rintro e w3 ⟨a3, c3, rfl, hl3, hb3⟩
              have HG : Hid (Small (graphOf n0 D F) ∧ InMem w3 a3 (graphOf n0 D F) ∧ Row .i64 w3 a2 n0 f) := ⟨graphOf_small hn HD.out HR.out, hl3.inMem HR.out, HT2.out.below hb3⟩
              have hbw : Below w.heap.size w w3 := bthen (bthen hb1 hb2) hb3
              clear hl3 HT2 hb1 hb2 hb3 HR HD H
              generalize hGG : graphOf n0 D F = G at *
              have hGn : G.n = n0 := by rw [← hGG]; rfl
              clear hGG
              subst hGn
              go_wp2_with fail
              refine (zzCycle_any G w3 a2 a3 c2 c3 f HG.out.1 HG.out.2.2 HG.out.2.1).mono ?_
              rintro e w4 ⟨hb4, h⟩
              obtain ⟨oa, ol, oc, rfl, ho⟩ : ∃ oa ol oc, e = .returned (.slice oa ol oc) ∧ (oa.isNone = true ↔ ∀ v, v < G.n → ¬ Multi G v) := by
                rcases h with ⟨rfl, h⟩ | ⟨g, c, start, l, rfl, hc, ho⟩
                · exact ⟨_, _, _, rfl, by simpa using h⟩
                · refine ⟨_, _, _, rfl, ?_⟩
                  constructor
                  · intro h; cases h
                  · intro h; exact absurd hc.multi (h start hc.lt)
              have HO : Hid (oa.isNone = true ↔ ∀ v, v < G.n → ¬ Multi G v) := ho
              have HM : Hid (Small G ∧ InMem w4 a3 G) := ⟨HG.out.1, Lists.below HG.out.2.1 hb4⟩
              have hbw4 : Below w.heap.size w w4 := bthen hbw hb4
              clear h ho HG hbw hb4
              generalize hnn : G.n = n at *
              have hmk := run_make_row' (P := Try.prog) 22 3 (.int .i64 0) 8 Try.underlying22 Try.info3 rfl .i64 .i64 n (by omega) (by omega)
              have H0 : Hid (CI G (fun _ => 0) 0 0 ∧ CM n w4 (indeg G (fun _ => 0)) (w4.alloc (.cells (madeCells #[.int .i64 0] n) 3))) :=
                ⟨⟨fun u hu => by omega, rfl, fun _ _ => rfl⟩, (World.rowIs_made w4 (.int .i64 0) n 3).congr (fun x _ => by rw [indeg_start]; rfl), (Below.refl _ _).alloc (Nat.le_refl _) _⟩
              go_wp2
              go_loopg [8] n (fun k v8 wr => ∃ (j : Nat) (ptr : Nat → Nat), j ≤ n ∧ n - j = k ∧ v8 = .int .i64 j ∧ Hid (CI G ptr j 0 ∧ CM n w4 (indeg G ptr) wr))
              case atStart => exact ⟨0, fun _ => 0, by omega, rfl, rfl, H0⟩
              case round =>
                obtain ⟨j, ptr, hj, rfl, rfl, hR⟩ := hrel
                clear H0 hmk
                by_cases hlt : j < n
                · obtain ⟨sb, so, lx, lc, hSe, hsb, hl0, hlr⟩ := HM.out.2 j (hnn ▸ hlt)
                  subst hSe
                  have HL : Hid (Row .i64 w4 lx (G.deg j) (fun k => ((G.adj j k : Nat) : Int)) ∧ w4.cell? ⟨sb, so + j, none⟩ = some (.slice lx (G.deg j) lc)) := ⟨hlr, hl0⟩
                  clear hlr hl0
                  have hdeg := HM.out.1.deg j (hnn ▸ hlt)
                  generalize hdd : G.deg j = dj at *
                  go_wp2
                  go_loopg [9] dj (fun k v9 wr => ∃ (a : Nat) (ptr : Nat → Nat), a ≤ dj ∧ dj - a = k ∧ v9 = .int .i64 a ∧ Hid (CI G ptr j a ∧ CM n w4 (indeg G ptr) wr))
                  case atStart => exact ⟨0, ptr, by omega, rfl, rfl, hR⟩
                  case round =>
                    clear hR
                    obtain ⟨a, ptr, ha, rfl, rfl, hR⟩ := hrel
                    have hbB := hR.out.2.bel
                    have hl1 := (hbB.cell (p := ⟨sb, so + j, none⟩) hsb).trans HL.out.2
                    by_cases hlt2 : a < dj
                    · obtain ⟨lb, lo, hle, _, hlc⟩ := HL.out.1.below hbB a hlt2
                      subst hle
                      have hyn : G.adj j a < n := hnn ▸ HM.out.1.ok j (hnn ▸ hlt) a (hdd ▸ hlt2)
                      have hlc2 : wr.cell? ⟨lb, lo + a, none⟩ = some (.int .i64 ((G.adj j a : Nat) : Int)) := hlc
                      clear hlc
                      by_cases hys : G.adj j a = j
                      · have R : Hid (CI G (upd ptr j (a + 1)) j (a + 1) ∧ CM n w4 (indeg G (upd ptr j (a + 1))) wr) :=
                          ⟨hR.out.1.step, hR.out.2.row.congr (fun x _ => by rw [indeg_skip G ptr hR.out.1.at_ hys]), hR.out.2.bel⟩
                        rw [hys] at hlc2 hyn
                        have hB : ((j : Int) != (j : Int)) = false := by simp
                        clear hR
                        go_wp2
                        go_roundg (dj - (a + 1))
                        case measure => omega
                        case rel =>
                          go_light
                          exact ⟨a + 1, _, by omega, rfl, by go_num, R⟩
                      · have hB : (((G.adj j a : Nat) : Int) != (j : Int)) = true := by simp; omega
                        have hile := indeg_le G (hR.out.1.le HM.out.1 (by omega)) HM.out.1.n (G.adj j a)
                        have m0 : wr.cell? ⟨w4.heap.size, G.adj j a, none⟩ = some (.int .i64 ((indeg G ptr (G.adj j a) : Nat) : Int)) := hR.out.2.row.cell hyn
                        have m1 : wr.frozen? ⟨w4.heap.size, G.adj j a, none⟩ = false := hR.out.2.row.frozen (G.adj j a)
                        have R : Hid (CI G (upd ptr j (a + 1)) j (a + 1) ∧ CM n w4 (indeg G (upd ptr j (a + 1))) (wr.setCell ⟨w4.heap.size, G.adj j a, none⟩ (.int .i64 (((indeg G ptr (G.adj j a) : Nat) : Int) + 1)))) :=
                          ⟨hR.out.1.step, hR.out.2.set (G.adj j a) (indeg G ptr (G.adj j a) + 1) (fun y hy => indeg_step G ptr (hnn ▸ hlt) hR.out.1.at_ hys y)⟩
                        clear hR
                        generalize indeg G ptr (G.adj j a) = iy at *
                        generalize G.adj j a = y at *
                        go_wp2
                        go_roundg (dj - (a + 1))
                        case measure => omega
                        case rel =>
                          go_light
                          exact ⟨a + 1, _, by omega, rfl, by go_num, R⟩
                    · have e : dj = a := by omega
                      subst e
                      have R : Hid (CI G ptr (j + 1) 0 ∧ CM n w4 (indeg G ptr) wr) := ⟨CI.next (hdd.symm ▸ hR.out.1), hR.out.2⟩
                      clear hR
                      go_wp2
                      go_roundg (n - (j + 1))
                      case measure => omega
                      case rel =>
                        go_light
                        exact ⟨j + 1, _, by omega, rfl, by go_num, R⟩
                · have e : n = j := by omega
                  subst e
                  have HC : Hid (CM n w4 (outst G (fun _ => 0)) wr) :=
                    ⟨hR.out.2.row.congr (fun x _ => by rw [indeg_full G (fun u hu => hR.out.1.lo u (hnn ▸ hu))]), hR.out.2.bel⟩
                  clear hR
                  have hszr : w4.heap.size + 1 ≤ wr.heap.size := HC.out.row.lt
                  obtain ⟨i0, hi0, hz0, hz1, hz3⟩ := info_parts Try.info3
                  go_wp2_with (at_make; refine wpList_make_own _ rfl _ _ 22 rfl (w4.heap.size + 1) 3 i0 (.int .i64 0) 1 Try.underlying22 hi0 hz0 hz1 .i64 .i64 _ n rfl rfl rfl (by rw [hz3]; omega) (by unfold maxLen; omega) hszr ?_)
                  intro w5 hown5 hg5
                  have H5 : Hid (K0 G [] 0 ∧ KM n w4 (outst G (fun _ => 0)) (.slice (some ⟨wr.heap.size, 0, none⟩) 0 n) [] w5) :=
                    ⟨K0.start G, HC.out.row.of_block (hg5.block _ HC.out.row.lt (by simp)), hown5, HC.out.bel.grown hg5 (by omega) (fun k hk => by cases hk)⟩
                  clear hown5 hg5 HC
                  generalize Value.slice (some (⟨wr.heap.size, 0, none⟩ : Addr)) 0 n = rv at *
                  go_wp2_with fail
                  go_loopg [11, 12] n (fun k v11 v12 wr => ∃ (j : Nat) (R : List Nat), j ≤ n ∧ n - j = k ∧ v12 = .int .i64 j ∧ Hid (K0 G R j ∧ KM n w4 (outst G (fun _ => 0)) v11 R wr))
                  case atStart => exact ⟨0, [], by omega, rfl, rfl, H5⟩
                  case round =>
                    clear H5 hszr
                    obtain ⟨j, R, hj, rfl, rfl, hR⟩ := hrel
                    by_cases hlt : j < n
                    · have m0 : wr.cell? ⟨w4.heap.size, j, none⟩ = some (.int .i64 ((outst G (fun _ => 0) j : Nat) : Int)) := hR.out.2.row.cell hlt
                      by_cases hz : outst G (fun _ => 0) j = 0
                      · have R' := hR.out.1.push (hnn ▸ hlt) hz
                        rw [hz] at m0
                        have hRl : R.length ≤ n := by rw [← hnn, ← hR.out.1.count]; exact cnt_le _ _
                        have hszB : w4.heap.size ≤ wr.heap.size := hR.out.2.bel.size
                        have hlt' := hR.out.2.row.lt
                        have HK : Hid (K0 G (R ++ [j]) (j + 1)) := R'
                        clear R'
                        go_wp2_with (at_builtin; refine wpList_append_own _ rfl (.tmp 100) (.tmp 102) 22 rfl (w4.heap.size + 1) 3 i0 (.int .i64 0) 1 8 Try.underlying22 hi0 hz0 hz1 hz3 rfl (by decide) u11 R.length (nums R) rfl (hR.out.2.own.alloc _) ⟨wr.heap.size, 0, none⟩ 1 1 [.int .i64 (j : Int)] rfl rfl (cell_one_new _ _ _) ?f2 ?f3 ?f4 ?f5 ?_)
                        case f2 => first | rfl | (intro u hu; simp at hu; subst hu; rfl)
                        case f3 => unfold maxLen; omega
                        case f4 => omega
                        case f5 => first | omega | (simp; omega)
                        intro v11 w6 hown6 hg6 _
                        have R2 : Hid (K0 G (R ++ [j]) (j + 1) ∧ KM n w4 (outst G (fun _ => 0)) v11 (R ++ [j]) w6) := ⟨HK.out, hR.out.2.push hown6 hg6⟩
                        clear hown6 hg6 hR HK
                        go_wp2
                        go_roundg (n - (j + 1))
                        case measure => omega
                        case rel =>
                          go_light
                          exact ⟨j + 1, _, by omega, rfl, by go_num, R2⟩
                      · have R2 : Hid (K0 G R (j + 1) ∧ KM n w4 (outst G (fun _ => 0)) u11 R wr) := ⟨hR.out.1.pass hz, hR.out.2⟩
                        clear hR
                        generalize outst G (fun _ => 0) j = oj at *
                        have hzB : ((oj : Int) == 0) = false := by simp; omega
                        go_wp2
                        go_roundg (n - (j + 1))
                        case measure => omega
                        case rel =>
                          go_light
                          exact ⟨j + 1, _, by omega, rfl, by go_num, R2⟩
                    · have e : n = j := by omega
                      subst e
                      have H6 : Hid (KI G R (fun _ => 0) 0 0 ∧ KM n w4 (outst G (fun _ => 0)) u11 R wr) := ⟨K0.kahn (hnn.symm ▸ hR.out.1), hR.out.2⟩
                      clear hR
                      go_wp2
                      go_loopg [11, 13] n (fun k v11 v13 wr => ∃ (h : Nat) (R : List Nat) (ptr : Nat → Nat), n - h = k ∧ v13 = .int .i64 h ∧ Hid (KI G R ptr h 0 ∧ KM n w4 (outst G ptr) v11 R wr))
                      case atStart => exact ⟨0, R, fun _ => 0, rfl, rfl, H6⟩
                      case round =>
                        clear H6
                        obtain ⟨h, R, ptr, rfl, rfl, hR⟩ := hrel
                        have hhl := hR.out.1.le
                        have hRn : R.length ≤ n := hnn ▸ hR.out.1.length_le
                        by_cases hlt : h < R.length
                        · obtain ⟨rg, rc, rfl, hrc⟩ := owns_list hR.out.2.own (by omega)
                          obtain ⟨v, hv⟩ : ∃ v, R[h]? = some v := ⟨R[h], by simp⟩
                          have hvc := hrc h v hv
                          have hvn : v < n := hnn ▸ hR.out.1.lt v (List.mem_of_getElem? hv)
                          have HI : Hid (KI G R ptr h 0 ∧ KM n w4 (outst G ptr) (.slice (some ⟨rg, 0, none⟩) R.length rc) R wr ∧ R[h]? = some v) := ⟨hR.out.1, hR.out.2, hv⟩
                          obtain ⟨sb, so, lx, lc, hSe, hsb, hl0, hlr⟩ := HM.out.2 v (hnn ▸ hvn)
                          subst hSe
                          have HL : Hid (Row .i64 w4 lx (G.deg v) (fun k => ((G.adj v k : Nat) : Int)) ∧ w4.cell? ⟨sb, so + v, none⟩ = some (.slice lx (G.deg v) lc)) := ⟨hlr, hl0⟩
                          have hdeg := HM.out.1.deg v (hnn ▸ hvn)
                          clear hlr hl0 hR hrc hv
                          generalize hdd : G.deg v = dv at *
                          go_wp2
                          go_loopg [11, 15] dv (fun k v11 v15 wr => ∃ (a : Nat) (R : List Nat) (ptr : Nat → Nat), a ≤ dv ∧ dv - a = k ∧ v15 = .int .i64 a ∧ Hid (KI G R ptr h a ∧ KM n w4 (outst G ptr) v11 R wr ∧ R[h]? = some v))
                          case atStart => exact ⟨0, R, ptr, by omega, rfl, rfl, HI⟩
                          case round =>
                            clear HI hvc hlt hhl hRn
                            obtain ⟨a, R, ptr, ha, rfl, rfl, hR⟩ := hrel
                            have hRn : R.length ≤ n := hnn ▸ hR.out.1.length_le
                            have hhl : h < R.length := (List.getElem?_eq_some_iff.1 hR.out.2.2).1
                            have hbB := hR.out.2.1.bel
                            have hl1 := (hbB.cell (p := ⟨sb, so + v, none⟩) hsb).trans HL.out.2
                            by_cases hlt2 : a < dv
                            · obtain ⟨lb, lo, hle, _, hlc⟩ := HL.out.1.below hbB a hlt2
                              subst hle
                              have hyn : G.adj v a < n := hnn ▸ HM.out.1.ok v (hnn ▸ hvn) a (hdd ▸ hlt2)
                              have hlc2 : wr.cell? ⟨lb, lo + a, none⟩ = some (.int .i64 ((G.adj v a : Nat) : Int)) := hlc
                              clear hlc
                              by_cases hys : G.adj v a = v
                              · have R2 : Hid (KI G R (upd ptr v (a + 1)) h (a + 1) ∧ KM n w4 (outst G (upd ptr v (a + 1))) u11 R wr ∧ R[h]? = some v) :=
                                  ⟨hR.out.1.skip hR.out.2.2 hys, hR.out.2.1.congr (fun x _ => outst_skip G ptr (hR.out.1.cur v hR.out.2.2) hys x), hR.out.2.2⟩
                                rw [hys] at hlc2 hyn
                                have hB : ((v : Int) != (v : Int)) = false := by simp
                                clear hR
                                go_wp2
                                go_roundg (dv - (a + 1))
                                case measure => omega
                                case rel =>
                                  go_light
                                  exact ⟨a + 1, _, _, by omega, rfl, by go_num, R2⟩
                              · have hB : (((G.adj v a : Nat) : Int) != (v : Int)) = true := by simp; omega
                                have hos := outst_step G ptr (hnn ▸ hvn) (hR.out.1.cur v hR.out.2.2) (hdd ▸ hlt2) hys
                                have hile := outst_le HM.out.1 (upd ptr v (a + 1)) (G.adj v a)
                                have m0 : wr.cell? ⟨w4.heap.size, G.adj v a, none⟩ = some (.int .i64 (((outst G (upd ptr v (a + 1)) (G.adj v a) : Nat) : Int) + 1)) := by
                                  have := hR.out.2.1.row.cell hyn
                                  rw [hos, if_pos rfl] at this
                                  exact this
                                have m1 : wr.frozen? ⟨w4.heap.size, G.adj v a, none⟩ = false := hR.out.2.1.row.frozen (G.adj v a)
                                have HS : Hid (KM n w4 (outst G (upd ptr v (a + 1))) u11 R (wr.setCell ⟨w4.heap.size, G.adj v a, none⟩ (.int .i64 ((outst G (upd ptr v (a + 1)) (G.adj v a) : Nat) : Int)))) :=
                                  hR.out.2.1.set _ _ (fun y hy => by
                                    have := hos y
                                    by_cases e : y = G.adj v a
                                    · rw [if_pos e, e]
                                    · rw [if_neg e]; rw [if_neg e] at this; exact this.symm)
                                have HKz : Hid (outst G (upd ptr v (a + 1)) (G.adj v a) = 0 → KI G (R ++ [G.adj v a]) (upd ptr v (a + 1)) h (a + 1) ∧ (R ++ [G.adj v a])[h]? = some v) :=
                                  fun hz => ⟨hR.out.1.push HM.out.1.ok hR.out.2.2 (hdd ▸ hlt2) hys hz, by rw [List.getElem?_append_left hhl]; exact hR.out.2.2⟩
                                have HKn : Hid (outst G (upd ptr v (a + 1)) (G.adj v a) ≠ 0 → KI G R (upd ptr v (a + 1)) h (a + 1) ∧ R[h]? = some v) :=
                                  fun hz => ⟨hR.out.1.lower hR.out.2.2 (hdd ▸ hlt2) hys hz, hR.out.2.2⟩
                                have m2 : (wr.setCell ⟨w4.heap.size, G.adj v a, none⟩ (.int .i64 ((outst G (upd ptr v (a + 1)) (G.adj v a) : Nat) : Int))).cell? ⟨w4.heap.size, G.adj v a, none⟩ = some (.int .i64 ((outst G (upd ptr v (a + 1)) (G.adj v a) : Nat) : Int)) := HS.out.row.cell hyn
                                clear hR hos
                                generalize outst G (upd ptr v (a + 1)) (G.adj v a) = z at *
                                generalize G.adj v a = y at *
                                go_upto_region 41 with fail
                                generalize wr.setCell ⟨w4.heap.size, y, none⟩ (.int .i64 (z : Int)) = w6 at *
                                clear m0 m1 hlc2 hl1
                                by_cases hz : z = 0
                                · subst hz
                                  have HK := (show Hid _ from HKz.out rfl)
                                  have hlt6 := HS.out.row.lt
                                  have hbs6 := HS.out.bel.size
                                  have m2' : w6.cell? ⟨w4.heap.size, y, none⟩ = some (.int .i64 0) := m2
                                  clear HKz HKn m2
                                  go_wp2_with (at_builtin; refine wpList_append_own _ rfl (.tmp 144) (.tmp 146) 22 rfl (w4.heap.size + 1) 3 i0 (.int .i64 0) 1 8 Try.underlying22 hi0 hz0 hz1 hz3 rfl (by decide) u11 R.length (nums R) rfl (HS.out.own.alloc _) ⟨w6.heap.size, 0, none⟩ 1 1 [.int .i64 (y : Int)] rfl rfl (cell_one_new _ _ _) ?g2 ?g3 ?g4 ?g5 ?_)
                                  case g2 => first | rfl | (intro u hu; simp at hu; subst hu; rfl)
                                  case g3 => unfold maxLen; omega
                                  case g4 => omega
                                  case g5 => first | omega | (simp; omega)
                                  intro v11 w7 hown7 hg7 _
                                  have R2 : Hid (KI G (R ++ [y]) (upd ptr v (a + 1)) h (a + 1) ∧ KM n w4 (outst G (upd ptr v (a + 1))) v11 (R ++ [y]) w7 ∧ (R ++ [y])[h]? = some v) := ⟨HK.out.1, HS.out.push hown7 hg7, HK.out.2⟩
                                  clear hown7 hg7 HS HK
                                  go_wp2
                                  go_roundg (dv - (a + 1))
                                  case measure => omega
                                  case rel =>
                                    go_light
                                    exact ⟨a + 1, _, _, by omega, rfl, by go_num, R2⟩
                                · have hzB : ((z : Int) == 0) = false := by simp; omega
                                  have R2 : Hid (KI G R (upd ptr v (a + 1)) h (a + 1) ∧ KM n w4 (outst G (upd ptr v (a + 1))) u11 R w6 ∧ R[h]? = some v) := ⟨(HKn.out hz).1, HS.out, (HKn.out hz).2⟩
                                  clear HKz HKn HS
                                  go_wp2
                                  go_roundg (dv - (a + 1))
                                  case measure => omega
                                  case rel =>
                                    go_light
                                    exact ⟨a + 1, _, _, by omega, rfl, by go_num, R2⟩
                            · have e : dv = a := by omega
                              subst e
                              have R2 : Hid (KI G R ptr (h + 1) 0 ∧ KM n w4 (outst G ptr) u11 R wr) := ⟨hR.out.1.next hR.out.2.2 hdd.symm, hR.out.2.1⟩
                              clear hR
                              go_wp2
                              go_roundg (n - (h + 1))
                              case measure => omega
                              case rel =>
                                go_light
                                exact ⟨h + 1, _, _, rfl, by go_num, R2⟩
                        · have e : h = R.length := by omega
                          have HE : Hid (R.length = n ↔ ∀ v, v < G.n → ¬ Multi G v) := hnn ▸ hR.out.1.ends HM.out.1.ok e
                          have HB : Hid (Below w.heap.size w wr) := bthen hbw4 hR.out.2.bel
                          obtain ⟨ra, rc, rfl⟩ := owns_slice hR.out.2.own
                          clear hR hhl
                          subst e
                          generalize R.length = m at *
                          by_cases hm : m = n
                          · have hoa : oa.isNone = true := HO.out.2 (hnn ▸ HE.out.1 hm)
                            subst hm
                            have hB : ((m : Int) == (m : Int)) = true := by simp
                            go_wp2
                            go_ret
                            exact ⟨rfl, HB.out⟩
                          · have hoa : oa.isNone = false := by
                              cases h : oa.isNone with
                              | false => rfl
                              | true => exact absurd (HE.out.2 (hnn.symm ▸ HO.out.1 h)) hm
                            have hB : ((m : Int) == (n : Int)) = false := by simp; omega
                            go_wp2
                            go_ret
                            exact ⟨rfl, HB.out⟩
          · have hneB : ((n0 : Int) != (n : Int)) = true := by simp; omega
            go_wp2
            go_ret
            exact ⟨rfl, hbr⟩
end Go.Proofs.Qxb6601860a
