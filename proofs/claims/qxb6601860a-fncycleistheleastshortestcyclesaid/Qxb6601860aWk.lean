import Derived.Test.Qxb6601860aTb
import Derived.Test.Qxb6601860aWb
namespace Go.Proofs.Qxb6601860a
open Go.RowKit
set_option linter.unusedVariables false

def NodePost (G : Gr) (w : World) (e : Ending) (w' : World) : Prop :=
  Below w.heap.size w w' ∧ ((e = .returned (.int .i64 (-1)) ∧ ∀ v, v < G.n → ¬ Multi G v) ∨ ∃ v : Nat, e = .returned (.int .i64 v) ∧ v < G.n ∧ Multi G v ∧ ∀ u, u < v → ¬ Multi G u)

set_option maxHeartbeats 8000000 in
set_option maxRecDepth 100000 in
theorem node_any (G : Gr) (w : World) (S : Option Addr) (cS : Nat) (hS : Small G) (hM : InMem w S G) :
    Calls Try.prog 22 #[.slice S G.n cS] w (NodePost G w) := by
  have hn := hS.n
  have HM : Hid (InMem w S G ∧ Small G) := ⟨hM, hS⟩
  clear hM hS
  generalize hnn : G.n = n at *
  have hmkb := run_make_row' (P := Try.prog) 53 4 (.bool false) 1 Try.underlying53 Try.info4 rfl .i64 .i64 n (by omega) (by omega)
  obtain ⟨i0, hi0, hz0, hz1, hz3⟩ := info_parts Try.info3
  go_enter Try.func22, Try.ntmps22
  go_upto_region 3 with fail
  have H1 : Hid ((w.alloc (.cells (madeCells #[.bool false] n) 4)).rowIs w.heap.size 4 n (fun _ => .bool false) ∧ Below w.heap.size w (w.alloc (.cells (madeCells #[.bool false] n) 4))) :=
    ⟨World.rowIs_made w (.bool false) n 4, (Below.refl _ _).alloc (Nat.le_refl _) _⟩
  have hs1 : Hid ((w.alloc (.cells (madeCells #[.bool false] n) 4)).heap.size = w.heap.size + 1) := by show _ = _; simp
  generalize w.alloc (.cells (madeCells #[.bool false] n) 4) = w1 at *
  clear hmkb
  go_wp2_with (at_make; refine wpList_make_own _ rfl _ _ 22 rfl w1.heap.size 3 i0 (.int .i64 0) 1 Try.underlying22 hi0 hz0 hz1 .i64 .i64 _ n rfl rfl rfl (by rw [hz3]; omega) (by unfold maxLen; omega) (Nat.le_refl _) ?_)
  intro w2 hown2 hg2
  have F1 : Fix w2 w1.heap.size n [] := hown2
  have hl2 : w1.heap.size < w2.heap.size := F1.lt
  go_wp2_with (at_make; refine wpList_make_own _ rfl _ _ 22 rfl w2.heap.size 3 i0 (.int .i64 0) 1 Try.underlying22 hi0 hz0 hz1 .i64 .i64 _ n rfl rfl rfl (by rw [hz3]; omega) (by unfold maxLen; omega) (Nat.le_refl _) ?_)
  intro w3 hown3 hg3
  have F2 : Fix w3 w2.heap.size n [] := hown3
  have hl3 : w2.heap.size < w3.heap.size := F2.lt
  go_wp2_with (at_make; refine wpList_make_own _ rfl _ _ 22 rfl w3.heap.size 3 i0 (.int .i64 0) 1 Try.underlying22 hi0 hz0 hz1 .i64 .i64 _ n rfl rfl rfl (by rw [hz3]; omega) (by unfold maxLen; omega) (Nat.le_refl _) ?_)
  intro w4 hown4 hg4
  have F3 : Fix w4 w3.heap.size n [] := hown4
  have H4 : Hid (DF G (fun _ => false) [] [] (fun _ => 0) ∧ DM n w w1.heap.size w2.heap.size w3.heap.size (fun _ => false) [] [] [] w4) := by
    have hs1 := hs1.out
    refine ⟨DF.start G, ?_, ?_, ?_, F3, ?_, by omega, hl2, hl3⟩
    · exact ((H1.out.1.of_block (hg2.block _ (by omega) (by simp))).of_block (hg3.block _ (by omega) (by simp))).of_block (hg4.block _ (by omega) (by simp))
    · exact (F1.of_block (hg3.block _ (by omega) (by simp))).of_block (hg4.block _ (by omega) (by simp))
    · exact F2.of_block (hg4.block _ (by omega) (by simp))
    · exact ((H1.out.2.grown hg2 (by omega) (fun k hk => by cases hk)).grown hg3 (by omega) (fun k hk => by cases hk)).grown hg4 (by omega) (fun k hk => by cases hk)
  clear F1 F2 F3 hown2 hown3 hown4 hg2 hg3 hg4 H1 hs1 hl2 hl3
  generalize w1.heap.size = g1 at *
  generalize w2.heap.size = g2 at *
  generalize w3.heap.size = g3 at *
  go_wp2
  go_loopg [5, 6, 7, 8] n (fun k v5 v6 v7 v8 wr => ∃ (j : Nat) (order : List Nat) (seen : Nat → Bool) (ptr : Nat → Nat), j ≤ n ∧ n - j = k ∧ v8 = .int .i64 j ∧ v5 = .slice (some ⟨g1, 0, none⟩) order.length n ∧ v6 = .slice (some ⟨g2, 0, none⟩) 0 n ∧ v7 = .slice (some ⟨g3, 0, none⟩) 0 n ∧ Hid (DF G seen [] order ptr ∧ DM n w g1 g2 g3 seen order [] [] wr ∧ ∀ x, x < j → seen x = true))
  case atStart => exact ⟨0, [], _, _, by omega, rfl, rfl, rfl, rfl, rfl, H4.out.1, H4.out.2, fun x hx => absurd hx (Nat.not_lt_zero _)⟩
  case round =>
    clear H4
    obtain ⟨j, order, seen, ptr, hj, rfl, rfl, rfl, rfl, rfl, hR⟩ := hrel
    by_cases hlt : j < n
    · have m0 : wr.cell? ⟨w.heap.size, j, none⟩ = some (.bool (seen j)) := hR.out.2.1.seenR.cell hlt
      have m1 : wr.frozen? ⟨w.heap.size, j, none⟩ = false := hR.out.2.1.seenR.frozen j
      cases hsj : seen j with
      | true =>
        rw [hsj] at m0
        have R : Hid (DF G seen [] order ptr ∧ DM n w g1 g2 g3 seen order [] [] wr ∧ ∀ x, x < j + 1 → seen x = true) := ⟨hR.out.1, hR.out.2.1, fun x hx => by
          by_cases e : x = j
          · subst e; exact hsj
          · exact hR.out.2.2 x (by omega)⟩
        clear hR
        go_wp2
        go_roundg (n - (j + 1))
        case measure => omega
        case rel =>
          go_light
          exact ⟨j + 1, order, seen, ptr, by omega, rfl, by go_num, rfl, rfl, rfl, R⟩
      | false =>
        rw [hsj] at m0
        have hDF : Hid (DF G (fun v => decide (v = j) || seen v) ([] ++ [j]) order ptr ∧ ptr j = 0) := ⟨hR.out.1.enter (hnn ▸ hlt) hsj (fun g hg => by cases hg), hR.out.1.fresh j hsj⟩
        have hSe : Hid (∀ x, x < j + 1 → (decide (x = j) || seen x) = true) := fun x hx => by
          by_cases e : x = j
          · simp [e]
          · simp [hR.out.2.2 x (by omega)]
        have HMs := (show Hid _ from hR.out.2.1.setSeen j)
        clear hR hsj
        go_upto_region 11 with fail
        generalize wr.setCell ⟨w.heap.size, j, none⟩ (.bool true) = w5 at *
        clear m0 m1
        have hs5 := HMs.out.nodR.lt
        go_wp2_with (at_builtin; refine wpList_append_fits _ rfl (.tmp 48) (.tmp 50) 22 rfl g2 3 i0 1 Try.underlying22 hi0 hz1 g2 0 n [] rfl (World.ownsRow.alloc HMs.out.nodR _) ⟨w5.heap.size, 0, none⟩ 1 1 [.int .i64 (j : Int)] rfl rfl (cell_one_new _ _ _) ?a2 ?a3 ?_)
        case a2 => intro u hu; simp at hu; subst hu; rfl
        case a3 => omega
        intro w6 hown6 hg6
        have HM6 := (show Hid _ from HMs.out.pushNod (y := j) hown6 hg6)
        clear hown6 hg6 HMs hs5
        go_wp2_with (at_builtin; refine wpList_append_fits _ rfl (.tmp 52) (.tmp 53) 22 rfl g3 3 i0 1 Try.underlying22 hi0 hz1 g3 0 n [] rfl (World.ownsRow.alloc HM6.out.arcR _) ⟨w6.heap.size, 0, none⟩ 1 1 [.int .i64 0] rfl rfl (cell_one_new _ _ _) ?b2 ?b3 ?_)
        case b2 => intro u hu; simp at hu; subst hu; rfl
        case b3 => omega
        intro w7 hown7 hg7
        have HM7 : Hid (DF G (fun v => decide (v = j) || seen v) [j] order ptr ∧ DM n w g1 g2 g3 (fun v => decide (v = j) || seen v) order [j] ([j].map ptr) w7 ∧ ∀ x, x < j + 1 → (decide (x = j) || seen x) = true) := by
          refine ⟨hDF.out.1, ?_, hSe.out⟩
          have := HM6.out.pushArc (y := 0) hown7 hg7
          simp only [List.map, hDF.out.2]
          exact this
        clear hown7 hg7 HM6 hDF hSe
        go_wp2
        go_loopg [5, 6, 7] (todoF G [j] ptr) (fun k v5 v6 v7 wr => ∃ (gray order : List Nat) (seen : Nat → Bool) (ptr : Nat → Nat), todoF G gray ptr = k ∧ v5 = .slice (some ⟨g1, 0, none⟩) order.length n ∧ v6 = .slice (some ⟨g2, 0, none⟩) gray.length n ∧ v7 = .slice (some ⟨g3, 0, none⟩) gray.length n ∧ Hid (DF G seen gray order ptr ∧ DM n w g1 g2 g3 seen order gray (gray.map ptr) wr ∧ ∀ x, x < j + 1 → seen x = true))
        case atStart => exact ⟨[j], order, _, ptr, rfl, rfl, rfl, rfl, HM7⟩
        case round =>
          clear HM7
          obtain ⟨gray, order, seen, ptr, rfl, rfl, rfl, rfl, hR⟩ := hrel
          rcases list_last gray with hg | ⟨gs, v, hg⟩
          · subst hg
            have R : Hid (DF G seen [] order ptr ∧ DM n w g1 g2 g3 seen order [] [] wr ∧ ∀ x, x < j + 1 → seen x = true) := hR
            clear hR
            simp only [List.length_nil]
            go_wp2
            go_roundg (n - (j + 1))
            case measure => omega
            case rel =>
              go_light
              exact ⟨j + 1, order, seen, ptr, by omega, rfl, by go_num, rfl, rfl, rfl, R⟩
          · subst hg
            have hvn : v < n := hnn ▸ hR.out.1.gLt v (by simp)
            have hbB := hR.out.2.1.bel
            have hnodes : wr.cell? ⟨g2, gs.length, none⟩ = some (.int .i64 (v : Int)) := hR.out.2.1.nodR.cell (by simp)
            have harcs : wr.cell? ⟨g3, gs.length, none⟩ = some (.int .i64 ((ptr v : Nat) : Int)) := hR.out.2.1.arcR.cell (by simp)
            have harcf : wr.frozen? ⟨g3, gs.length, none⟩ = false := hR.out.2.1.arcR.free _
            obtain ⟨sb, so, lx, lc, hSe, hsb, hl0, hlr⟩ := HM.out.1 v (hnn ▸ hvn)
            subst hSe
            have hl1 := (hbB.cell (p := ⟨sb, so + v, none⟩) hsb).trans hl0
            have hdeg := HM.out.2.deg v (hnn ▸ hvn)
            have hple := hR.out.1.ptrLe v (hnn ▸ hvn)
            have hcnt : gs.length + 1 + order.length ≤ n := by
              have h1 := hR.out.1.count
              have h2 := cnt_le seen G.n
              simp at h1
              omega
            have hvgs : v ∉ gs := fun hm => by
              have := hR.out.1.gnd
              rw [List.nodup_append] at this
              exact this.2.2 v hm v (by simp) rfl
            simp only [List.length_append, List.length_singleton]
            by_cases hpd : ptr v < G.deg v
            · obtain ⟨lb, lo, hle, hlbl, hlc⟩ := hlr (ptr v) hpd
              subst hle
              have hyn : G.adj v (ptr v) < n := hnn ▸ HM.out.2.ok v (hnn ▸ hvn) (ptr v) hpd
              have Hlc : Hid (w.cell? ⟨lb, lo + ptr v, none⟩ = some (.int .i64 ((G.adj v (ptr v) : Nat) : Int)) ∧ lb < w.heap.size ∧ w.cell? ⟨sb, so + v, none⟩ = some (.slice (some ⟨lb, lo, none⟩) (G.deg v) lc) ∧ sb < w.heap.size) := ⟨hlc, hlbl, hl0, hsb⟩
              have HA := hR.out.2.1.setArc gs.length (ptr v + 1)
              rw [arcs_bump hvgs] at HA
              rw [show (((ptr v + 1 : Nat)) : Int) = ((ptr v : Nat) : Int) + 1 by omega] at HA
              have HDF : Hid (DF G seen (gs ++ [v]) order ptr ∧ ∀ x, x < j + 1 → seen x = true) := ⟨hR.out.1, hR.out.2.2⟩
              have HTO : Hid (todoF G (gs ++ [v]) (upd ptr v (ptr v + 1)) + 2 = todoF G (gs ++ [v]) ptr) := todoF_bump (hnn ▸ hvn) rfl hpd
              have HpdG : Hid (ptr v < G.deg v) := hpd
              clear hR hlr hl0 hlc
              generalize hpv : ptr v = a at *
              generalize hdv : G.deg v = dv at *
              go_upto_region 19 with fail
              generalize wr.setCell ⟨g3, gs.length, none⟩ (.int .i64 ((a : Int) + 1)) = w8 at *
              clear hnodes harcs harcf hl1 hbB
              have hbB := HA.bel
              have hl1 := (hbB.cell (p := ⟨sb, so + v, none⟩) hsb).trans Hlc.out.2.2.1
              have hlc2 := (hbB.cell (p := ⟨lb, lo + a, none⟩) Hlc.out.2.1).trans Hlc.out.1
              have m0 : w8.cell? ⟨w.heap.size, G.adj v a, none⟩ = some (.bool (seen (G.adj v a))) := HA.seenR.cell hyn
              have m1 : w8.frozen? ⟨w.heap.size, G.adj v a, none⟩ = false := HA.seenR.frozen _
              have H8 := (show Hid _ from HA)
              clear HA
              cases hsy : seen (G.adj v a) with
              | true =>
                have R : Hid (DF G seen (gs ++ [v]) order (upd ptr v (a + 1)) ∧ DM n w g1 g2 g3 seen order (gs ++ [v]) ((gs ++ [v]).map (upd ptr v (a + 1))) w8 ∧ ∀ x, x < j + 1 → seen x = true) :=
                  ⟨HDF.out.1.bump (by simp) hpv (by rw [hdv]; exact HpdG.out) hsy, H8.out, HDF.out.2⟩
                rw [hsy] at m0
                clear HDF H8
                generalize G.adj v a = y at *
                go_wp2
                go_roundg (todoF G (gs ++ [v]) (upd ptr v (a + 1)))
                case measure => have := HTO.out; omega
                case rel =>
                  go_light
                  exact ⟨gs ++ [v], order, seen, upd ptr v (a + 1), rfl, rfl, by simp, by simp, R⟩
              | false =>
                have hedge : G.Edge v (G.adj v a) := ⟨a, by rw [hdv]; exact HpdG.out, rfl⟩
                have hyv : G.adj v a ≠ v := fun e => by
                  have := (HDF.out.1.seenIff v).2 (.inl (by simp))
                  rw [← e, hsy] at this; cases this
                have hDF2 : DF G (fun u => decide (u = G.adj v a) || seen u) (gs ++ [v] ++ [G.adj v a]) order ptr := HDF.out.1.enter (hnn ▸ hyn) hsy (fun g hg => by
                  simp at hg
                  rcases hg with hg | rfl
                  · have hpw := HDF.out.1.reach
                    rw [List.pairwise_append] at hpw
                    exact (hpw.2.2 g hg v (by simp)).trans (Gr.Reach.edge hedge)
                  · exact Gr.Reach.edge hedge)
                have HD2 : Hid (DF G (fun u => decide (u = G.adj v a) || seen u) (gs ++ [v] ++ [G.adj v a]) order (upd ptr v (a + 1)) ∧ upd ptr v (a + 1) (G.adj v a) = 0 ∧ ∀ x, x < j + 1 → (decide (x = G.adj v a) || seen x) = true) :=
                  ⟨hDF2.bump (by simp) hpv (by rw [hdv]; exact HpdG.out) (by simp), by rw [upd_ne _ _ hyv]; exact HDF.out.1.fresh _ hsy, fun x hx => by simp [HDF.out.2 x hx]⟩
                have hcnt2 : gs.length + 1 + 1 ≤ n := by
                  have h1 := HD2.out.1.count
                  have h2 := cnt_le (fun u => decide (u = G.adj v a) || seen u) G.n
                  simp only [List.length_append, List.length_singleton] at h1
                  omega
                have H9 := (show Hid _ from H8.out.setSeen (G.adj v a))
                rw [hsy] at m0
                clear HDF H8 hDF2 hedge hyv hsy
                generalize G.adj v a = y at *
                go_upto_region 22 with fail
                generalize w8.setCell ⟨w.heap.size, y, none⟩ (.bool true) = w9 at *
                clear m0 m1 hlc2 hl1
                have hs9 := H9.out.nodR.lt
                have hA9 : Fix w9 g2 n (gs ++ [v]) := H9.out.nodR
                have HA9 : Hid (w9.ownsRow g2 3 1 (.slice (some ⟨g2, 0, none⟩) (gs.length + 1) n) (gs.length + 1) (nums (gs ++ [v]))) := by
                  unfold Fix at hA9
                  rw [List.length_append] at hA9
                  exact hA9
                clear hA9
                go_wp2_with (at_builtin; refine wpList_append_fits _ rfl (.tmp 96) (.tmp 98) 22 rfl g2 3 i0 1 Try.underlying22 hi0 hz1 g2 (gs.length + 1) n (nums (gs ++ [v])) rfl (World.ownsRow.alloc HA9.out _) ⟨w9.heap.size, 0, none⟩ 1 1 [.int .i64 (y : Int)] rfl rfl (cell_one_new _ _ _) ?a5 ?a6 ?_)
                case a5 => intro u hu; simp at hu; subst hu; rfl
                case a6 => omega
                intro w10 hown10 hg10
                have H10 := (show Hid _ from H9.out.pushNod (y := y) (w' := w10) (by rw [List.length_append]; exact hown10) hg10)
                clear hown10 hg10 H9 hs9 HA9
                have hA10 : Fix w10 g3 n ((gs ++ [v]).map (upd ptr v (a + 1))) := H10.out.arcR
                have HA10 : Hid (w10.ownsRow g3 3 1 (.slice (some ⟨g3, 0, none⟩) (gs.length + 1) n) (gs.length + 1) (nums ((gs ++ [v]).map (upd ptr v (a + 1))))) := by
                  unfold Fix at hA10
                  rw [List.length_map, List.length_append] at hA10
                  exact hA10
                clear hA10
                go_wp2_with (at_builtin; refine wpList_append_fits _ rfl (.tmp 100) (.tmp 101) 22 rfl g3 3 i0 1 Try.underlying22 hi0 hz1 g3 (gs.length + 1) n (nums ((gs ++ [v]).map (upd ptr v (a + 1)))) rfl (World.ownsRow.alloc HA10.out _) ⟨w10.heap.size, 0, none⟩ 1 1 [.int .i64 0] rfl rfl (cell_one_new _ _ _) ?a7 ?a8 ?_)
                case a7 => intro u hu; simp at hu; subst hu; rfl
                case a8 => omega
                intro w11 hown11 hg11
                have R : Hid (DF G (fun u => decide (u = y) || seen u) (gs ++ [v] ++ [y]) order (upd ptr v (a + 1)) ∧ DM n w g1 g2 g3 (fun u => decide (u = y) || seen u) order (gs ++ [v] ++ [y]) ((gs ++ [v] ++ [y]).map (upd ptr v (a + 1))) w11 ∧ ∀ x, x < j + 1 → (decide (x = y) || seen x) = true) := by
                  refine ⟨HD2.out.1, ?_, HD2.out.2.2⟩
                  have := H10.out.pushArc (y := 0) (w' := w11) (by rw [List.length_map, List.length_append, List.map_append]; exact hown11) hg11
                  rw [List.map_append (l₂ := [y])]
                  simp only [List.map_cons, List.map_nil, HD2.out.2.1]
                  exact this
                have HT2 : Hid (todoF G (gs ++ [v] ++ [y]) (upd ptr v (a + 1)) + 1 = todoF G (gs ++ [v]) ptr) := by
                  have := HTO.out
                  unfold todoF at *
                  simp only [List.length_append, List.length_singleton] at *
                  show _ = _
                  omega
                clear hown11 hg11 H10 HA10 HD2
                go_wp2
                go_roundg (todoF G (gs ++ [v] ++ [y]) (upd ptr v (a + 1)))
                case measure => have := HT2.out; omega
                case rel =>
                  go_light
                  exact ⟨gs ++ [v] ++ [y], order, _, upd ptr v (a + 1), rfl, rfl, by simp, by simp, R⟩
            · have hpe : ptr v = G.deg v := by omega
              have HP : Hid (DF G seen gs (order ++ [v]) ptr ∧ DM n w g1 g2 g3 seen order gs (gs.map ptr) wr ∧ ∀ x, x < j + 1 → seen x = true) :=
                ⟨hR.out.1.pop rfl hpe, DM.popBoth (v := v) (a := ptr v) (by have := hR.out.2.1; rw [List.map_append] at this; exact this), hR.out.2.2⟩
              have HT2 : Hid (todoF G gs ptr + 1 = todoF G (gs ++ [v]) ptr) := by
                unfold todoF
                show _ = _
                simp only [List.length_append, List.length_singleton]
                omega
              clear hR hlr hl0 hpd
              rw [← hpe] at hl1 hdeg
              clear hpe
              generalize ptr v = a at *
              go_wp2_with (at_builtin; refine wpList_append_fits _ rfl (.tmp 109) (.tmp 111) 22 rfl g1 3 i0 1 Try.underlying22 hi0 hz1 g1 order.length n (nums order) rfl (World.ownsRow.alloc HP.out.2.1.ordR _) ⟨wr.heap.size, 0, none⟩ 1 1 [.int .i64 (v : Int)] rfl rfl (cell_one_new _ _ _) ?a9 ?a10 ?_)
              case a9 => intro u hu; simp at hu; subst hu; rfl
              case a10 => omega
              intro w12 hown12 hg12
              have R : Hid (DF G seen gs (order ++ [v]) ptr ∧ DM n w g1 g2 g3 seen (order ++ [v]) gs (gs.map ptr) w12 ∧ ∀ x, x < j + 1 → seen x = true) := ⟨HP.out.1, HP.out.2.1.pushOrd hown12 hg12, HP.out.2.2⟩
              clear hown12 hg12 HP
              go_wp2
              go_roundg (todoF G gs ptr)
              case measure => have := HT2.out; omega
              case rel =>
                go_light
                exact ⟨gs, order ++ [v], seen, ptr, rfl, by simp, rfl, rfl, R⟩
    · have e : n = j := by omega
      subst e
      have HFin : Hid (Fin G order ∧ Row .i64 wr (some ⟨g1, 0, none⟩) n (fun t => ((order.getD t 0 : Nat) : Int)) ∧ Below w.heap.size w wr ∧ order.length = n) := by
        have hF : Fin G order := hR.out.1.ends (fun x hx => hR.out.2.2 x (hnn ▸ hx))
        refine ⟨hF, fun t ht => ⟨g1, 0, rfl, hR.out.2.1.ordR.lt, ?_⟩, hR.out.2.1.bel, hnn ▸ hF.len⟩
        rw [Nat.zero_add]
        have hl : t < order.length := by rw [hF.len, hnn]; exact ht
        exact hR.out.2.1.ordR.cell (by simp [List.getD, hl])
      clear hR
      have hol : order.length = n := HFin.out.2.2.2
      rw [hol]
      clear hol
      go_wp2_with fail
      have hM2 := Lists.below HM.out.1 HFin.out.2.2.1
      obtain ⟨w2, hw2⟩ : ∃ w2, w2 = wr := ⟨_, rfl⟩
      subst hw2
      rw [← hnn]
      refine (reverse_any G w2 S cS HM.out.2 hM2).mono ?_
      rw [hnn]
      rintro e w3 ⟨fi, pr, M, r1, r2, rfl, hrev, hfr, hpr, hMb, hb3⟩
      rw [hnn] at hfr ⊢
      have HF : Hid (Rev G fi pr M ∧ Row .i64 w3 (some ⟨r1, 0, none⟩) (n + 1) (fun x => ((fi x : Nat) : Int)) ∧ Row .i64 w3 (some ⟨r2, 0, none⟩) M (fun p => ((pr p : Nat) : Int)) ∧ Fin G order ∧ Row .i64 w3 (some ⟨g1, 0, none⟩) n (fun t => ((order.getD t 0 : Nat) : Int)) ∧ Below w.heap.size w w3 ∧ Small G) :=
        ⟨hrev, hfr, hpr, HFin.out.1, HFin.out.2.1.below hb3, bthen HFin.out.2.2.1 hb3, HM.out.2⟩
      clear hrev hfr hpr hb3 HFin HM hM2
      have hmk := run_make_row' (P := Try.prog) 22 3 (.int .i64 0) 8 Try.underlying22 Try.info3 rfl .i64 .i64 n (by omega) (by omega)
      have H0 : Hid ((w3.alloc (.cells (madeCells #[.int .i64 0] n) 3)).rowIs w3.heap.size 3 n (fun x => .int .i64 (if x < 0 then -1 else 0)) ∧ Below w3.heap.size w3 (w3.alloc (.cells (madeCells #[.int .i64 0] n) 3))) :=
        ⟨(World.rowIs_made w3 (.int .i64 0) n 3).congr (fun x _ => by simp), (Below.refl _ _).alloc (Nat.le_refl _) _⟩
      go_wp2
      go_loopg [16] n (fun k v16 wr => ∃ j : Nat, j ≤ n ∧ n - j = k ∧ v16 = .int .i64 j ∧ Hid (wr.rowIs w3.heap.size 3 n (fun x => .int .i64 (if x < j then -1 else 0)) ∧ Below w3.heap.size w3 wr))
      case atStart => exact ⟨0, by omega, rfl, rfl, H0⟩
      case round =>
        clear H0 hmk
        obtain ⟨j, hj, rfl, rfl, hR⟩ := hrel
        by_cases hlt : j < n
        · have m0 : wr.cell? ⟨w3.heap.size, j, none⟩ = some (.int .i64 (if j < j then -1 else 0)) := hR.out.1.cell hlt
          rw [if_neg (Nat.lt_irrefl _)] at m0
          have m1 : wr.frozen? ⟨w3.heap.size, j, none⟩ = false := hR.out.1.frozen j
          have R : Hid ((wr.setCell ⟨w3.heap.size, j, none⟩ (.int .i64 (-1))).rowIs w3.heap.size 3 n (fun x => .int .i64 (if x < j + 1 then -1 else 0)) ∧ Below w3.heap.size w3 (wr.setCell ⟨w3.heap.size, j, none⟩ (.int .i64 (-1)))) :=
            ⟨(hR.out.1.set j _).congr (fun x _ => by
              by_cases e : x = j
              · subst e; simp
              · by_cases h : x < j
                · have : x < j + 1 := by omega
                  simp [e, h, this]
                · have : ¬ x < j + 1 := by omega
                  simp [e, h, this]), hR.out.2.setCell (Nat.le_refl _) _⟩
          clear hR
          go_wp2
          go_roundg (n - (j + 1))
          case measure => omega
          case rel =>
            go_light
            exact ⟨j + 1, by omega, rfl, by go_num, R⟩
        · have e : n = j := by omega
          subst e
          have H1 : Hid (wr.rowIs w3.heap.size 3 n (fun x => .int .i64 ((((fun _ => 0 : Nat → Nat) x : Nat) : Int) - 1)) ∧ Below w3.heap.size w3 wr) := ⟨hR.out.1.congr (fun x hx => by simp [hx]), hR.out.2⟩
          clear hR
          obtain ⟨w4, hw4⟩ : ∃ w4, w4 = wr := ⟨_, rfl⟩
          subst hw4
          go_wp2_with (at_make; refine wpList_make_own _ rfl _ _ 22 rfl w4.heap.size 3 i0 (.int .i64 0) 1 Try.underlying22 hi0 hz0 hz1 .i64 .i64 _ n rfl rfl rfl (by rw [hz3]; omega) (by unfold maxLen; omega) (Nat.le_refl _) ?_)
          intro w5 hown5 hg5
          have F1 : Fix w5 w4.heap.size n [] := hown5
          have hl5 : w4.heap.size < w5.heap.size := F1.lt
          go_wp2_with (at_make; refine wpList_make_own _ rfl _ _ 22 rfl w5.heap.size 3 i0 (.int .i64 0) 1 Try.underlying22 hi0 hz0 hz1 .i64 .i64 _ n rfl rfl rfl (by rw [hz3]; omega) (by unfold maxLen; omega) (Nat.le_refl _) ?_)
          intro w6 hown6 hg6
          have F2 : Fix w6 w5.heap.size n [] := hown6
          have H6 : Hid (K2 G order (fun _ => 0) [] n ∧ CMem n w3 w4.heap.size w5.heap.size (fun _ => 0) [] [] w6) := by
            have hl := H1.out.1.lt
            refine ⟨by have := K2.start HF.out.2.2.2.1; rw [hnn] at this; exact this, ?_, F1.of_block (hg6.block _ hl5 (by simp)), F2, ?_, hl, hl5⟩
            · exact (H1.out.1.of_block (hg5.block _ hl (by simp))).of_block (hg6.block _ (by omega) (by simp))
            · exact (H1.out.2.grown hg5 (by omega) (fun k hk => by cases hk)).grown hg6 (by omega) (fun k hk => by cases hk)
          clear F1 F2 hown5 hown6 hg5 hg6 H1 hl5
          generalize w4.heap.size = ga at *
          generalize w5.heap.size = gb at *
          go_wp2
          go_loopg [17, 18, 19] n (fun k v17 v18 v19 wr => ∃ (q : Nat) (sz st : List Nat) (cm : Nat → Nat), q ≤ n ∧ q = k ∧ v19 = .int .i64 ((q : Int) - 1) ∧ v17 = .slice (some ⟨ga, 0, none⟩) sz.length n ∧ v18 = .slice (some ⟨gb, 0, none⟩) st.length n ∧ Hid (K2 G order cm sz q ∧ CMem n w3 ga gb cm sz st wr))
          case atStart => exact ⟨n, [], [], _, by omega, rfl, by go_num, rfl, rfl, H6⟩
          case round =>
            clear H6
            obtain ⟨q, sz, st, cm, hq, rfl, rfl, rfl, rfl, hR⟩ := hrel
            cases q with
            | zero =>
              have hK := hR.out.1.ends HF.out.2.2.2.1
              have HE : Hid ((∀ x, x < n → cm x ≠ 0) ∧ Comps G (fun x => cm x - 1) ∧ (∀ x, x < n → sz[cm x - 1]? = some (sizeOf (fun x => cm x - 1) n (cm x - 1))) ∧ CMem n w3 ga gb cm sz st wr ∧ ∀ x, cm x ≤ sz.length) := by
                rw [hnn] at hK
                exact ⟨hK.1, hK.2.1, hK.2.2, hR.out.2, hR.out.1.le⟩
              have hszn : sz.length ≤ n := by have := hR.out.1.bound; omega
              clear hR hK
              obtain ⟨w7, hw7⟩ : ∃ w7, w7 = wr := ⟨_, rfl⟩
              subst hw7
              go_wp2
              go_loopg [25] n (fun k v25 wr => ∃ j : Nat, j ≤ n ∧ n - j = k ∧ v25 = .int .i64 j ∧ Hid (∀ x, x < j → ¬ Multi G x) ∧ w7 = wr)
              case atStart => exact ⟨0, by omega, rfl, rfl, fun x hx => absurd hx (Nat.not_lt_zero _), rfl⟩
              case round =>
                obtain ⟨j, hj, rfl, rfl, hN, rfl⟩ := hrel
                by_cases hlt : j < n
                · have hne := HE.out.1 j hlt
                  have hle := HE.out.2.2.2.2 j
                  have m0 : w7.cell? ⟨w3.heap.size, j, none⟩ = some (.int .i64 ((cm j - 1 : Nat) : Int)) := by
                    have := HE.out.2.2.2.1.compR.cell hlt
                    rw [show (((cm j - 1 : Nat)) : Int) = ((cm j : Nat) : Int) - 1 by omega]
                    exact this
                  have m1 : w7.cell? ⟨ga, cm j - 1, none⟩ = some (.int .i64 ((sizeOf (fun x => cm x - 1) n (cm j - 1) : Nat) : Int)) := HE.out.2.2.2.1.szR.cell (HE.out.2.2.1 j hlt)
                  have hmul := size_multi HE.out.2.1 (v := j) (hnn ▸ hlt)
                  rw [hnn] at hmul
                  have hcl : cm j - 1 < sz.length := by omega
                  have hsl := sizeOf_le (fun x => cm x - 1) n (cm j - 1)
                  by_cases hbig : 2 ≤ sizeOf (fun x => cm x - 1) n (cm j - 1)
                  · have HM2 : Hid (Multi G j ∧ Below w.heap.size w w7) := ⟨hmul.1 (by show 1 < sizeOf (fun x => cm x - 1) n (cm j - 1); omega), bthen HF.out.2.2.2.2.2.1 HE.out.2.2.2.1.bel⟩
                    clear hmul HE
                    generalize cm j - 1 = cj at *
                    generalize sizeOf (fun x => cm x - 1) n cj = sj at *
                    have hbI : (2 : Int) ≤ (sj : Int) := by omega
                    go_wp2
                    go_ret
                    exact ⟨HM2.out.2, .inr ⟨j, rfl, hnn ▸ hlt, HM2.out.1, hN.out⟩⟩
                  · have R : Hid (∀ x, x < j + 1 → ¬ Multi G x) := fun x hx hm => by
                      by_cases e : x = j
                      · subst e
                        have : 1 < sizeOf (fun x => cm x - 1) n (cm x - 1) := hmul.2 hm
                        omega
                      · exact hN.out x (by omega) hm
                    clear hmul hN
                    generalize cm j - 1 = cj at *
                    generalize sizeOf (fun x => cm x - 1) n cj = sj at *
                    have hbI : ¬ (2 : Int) ≤ (sj : Int) := by omega
                    go_wp2
                    go_roundg (n - (j + 1))
                    case measure => omega
                    case rel =>
                      go_light
                      exact ⟨j + 1, by omega, rfl, by go_num, R, rfl⟩
                · have e : n = j := by omega
                  subst e
                  have HB : Hid (Below w.heap.size w w7) := bthen HF.out.2.2.2.2.2.1 HE.out.2.2.2.1.bel
                  go_wp2
                  go_ret
                  exact ⟨HB.out, .inl ⟨rfl, fun v hv => hN.out v (hnn ▸ hv)⟩⟩
            | succ q =>
              rw [show (((q + 1 : Nat)) : Int) - 1 = (q : Int) by omega]
              have hqn : q < n := by omega
              have hbB := hR.out.2.bel
              have hol : order.length = n := hnn ▸ HF.out.2.2.2.1.len
              obtain ⟨v, hv⟩ : ∃ v, order[q]? = some v := ⟨order[q]'(by omega), by simp [hol, hqn]⟩
              have hvn : v < n := hnn ▸ HF.out.2.2.2.1.lt v (List.mem_of_getElem? hv)
              have hoc : wr.cell? ⟨g1, q, none⟩ = some (.int .i64 (v : Int)) := by
                obtain ⟨_, _, e, _, hc⟩ := HF.out.2.2.2.2.1.below hbB q hqn
                simp at e
                obtain ⟨rfl, rfl⟩ := e
                rw [Nat.zero_add] at hc
                simp only [List.getD, hv] at hc
                exact hc
              have m0 : wr.cell? ⟨w3.heap.size, v, none⟩ = some (.int .i64 (((cm v : Nat) : Int) - 1)) := hR.out.2.compR.cell hvn
              have m1 : wr.frozen? ⟨w3.heap.size, v, none⟩ = false := hR.out.2.compR.frozen v
              have hszb : sz.length + (q + 1) ≤ n := hnn ▸ hR.out.1.bound
              have hcle := hR.out.1.le v
              by_cases hc0 : cm v = 0
              · have HK0 : Hid (K2 G order cm sz (q + 1) ∧ order[q]? = some v) := ⟨hR.out.1, hv⟩
                have HX0 : Hid (KX G fi pr cm sz.length v (upd cm v (sz.length + 1)) [v] n 0 1) := by
                  have := K2.begin (fi := fi) (pr := pr) hR.out.1 (hnn ▸ hvn) hc0
                  rw [hnn] at this
                  exact this
                have HC0 := (show Hid _ from hR.out.2)
                rw [hc0] at m0
                clear hR hv hol hcle
                have hA : Fix wr ga n sz := HC0.out.szR
                have hlt0 := hA.lt
                go_wp2_with (at_builtin; refine wpList_append_fits _ rfl (.tmp 150) (.tmp 151) 22 rfl ga 3 i0 1 Try.underlying22 hi0 hz1 ga sz.length n (nums sz) rfl (World.ownsRow.alloc hA _) ⟨wr.heap.size, 0, none⟩ 1 1 [.int .i64 1] rfl rfl (cell_one_new _ _ _) ?p1 ?p2 ?_)
                case p1 => intro u hu; simp at hu; subst hu; rfl
                case p2 => omega
                intro w8 hown8 hg8
                have HC1 := HC0.out.pushSz (y := 1) hown8 hg8
                have m2 : w8.cell? ⟨w3.heap.size, v, none⟩ = some (.int .i64 (((cm v : Nat) : Int) - 1)) := HC1.compR.cell hvn
                rw [hc0] at m2
                have m3 : w8.frozen? ⟨w3.heap.size, v, none⟩ = false := HC1.compR.frozen v
                have HC2 := HC1.setComp v (sz.length + 1)
                rw [show (((sz.length + 1 : Nat)) : Int) - 1 = ((sz.length : Nat) : Int) by omega] at HC2
                clear hA hlt0 hown8 hg8 HC0 HC1 m0 m1
                have H2 := (show Hid _ from HC2)
                clear HC2
                go_upto_region 43 with fail
                generalize w8.setCell ⟨w3.heap.size, v, none⟩ (.int .i64 ((sz.length : Nat) : Int)) = w9 at *
                clear m2 m3
                have hE : Fix w9 gb n [] := H2.out.emptySt.stR
                have hltE := hE.lt
                have hE' : w9.ownsRow gb 3 1 (.slice (some ⟨gb, 0, none⟩) 0 n) 0 [] := hE
                clear hE
                go_wp2_with (at_builtin; refine wpList_append_fits _ rfl (.tmp 158) (.tmp 160) 22 rfl gb 3 i0 1 Try.underlying22 hi0 hz1 gb 0 n [] rfl (World.ownsRow.alloc hE' _) ⟨w9.heap.size, 0, none⟩ 1 1 [.int .i64 (v : Int)] rfl rfl (cell_one_new _ _ _) ?p3 ?p4 ?_)
                case p3 => intro u hu; simp at hu; subst hu; rfl
                case p4 => omega
                intro w10 hown10 hg10
                have H3 : Hid (KX G fi pr cm sz.length v (upd cm v (sz.length + 1)) [v] n 0 1 ∧ CMem n w3 ga gb (upd cm v (sz.length + 1)) (sz ++ [1]) [v] w10) := ⟨HX0.out, H2.out.emptySt.pushSt (y := v) hown10 hg10⟩
                clear hown10 hg10 hE' hltE H2 HX0
                generalize upd cm v (sz.length + 1) = cm1 at *
                go_wp2
                go_loopg [18] (todoC n cm1 [v]) (fun k v18 wr => ∃ (cm2 : Nat → Nat) (st : List Nat) (s : Nat), todoC n cm2 st = k ∧ v18 = .slice (some ⟨gb, 0, none⟩) st.length n ∧ Hid (KX G fi pr cm sz.length v cm2 st n 0 s ∧ CMem n w3 ga gb cm2 (sz ++ [s]) st wr))
                case atStart => exact ⟨cm1, [v], 1, rfl, rfl, H3⟩
                case round =>
                  clear H3
                  obtain ⟨cm2, st2, s, rfl, rfl, hX⟩ := hrel
                  rcases list_last st2 with hst | ⟨st3, x, hst⟩
                  · subst hst
                    have R : Hid (K2 G order cm2 (sz ++ [s]) q ∧ CMem n w3 ga gb cm2 (sz ++ [s]) [] wr) := by
                      refine ⟨?_, hX.out.2⟩
                      have := hX.out.1
                      rw [← hnn] at this
                      exact KX.ends HF.out.2.2.2.2.2.2.ok HF.out.2.2.2.1 HK0.out.1 HK0.out.2 this
                    clear hX
                    simp only [List.length_nil]
                    go_wp2
                    go_roundg q
                    case measure => omega
                    case rel =>
                      go_light
                      exact ⟨q, sz ++ [s], [], cm2, by omega, rfl, by go_num, by simp, rfl, R⟩
                  · subst hst
                    have hxs := hX.out.1.stk x (by simp)
                    have hxn : x < n := hnn ▸ hxs.2
                    have hxc : wr.cell? ⟨gb, st3.length, none⟩ = some (.int .i64 (x : Int)) := hX.out.2.stR.cell (by simp)
                    have hstn : st3.length + 1 ≤ n := by
                      have := hX.out.1.room
                      simp only [List.length_append, List.length_singleton] at this
                      omega
                    have hbB := hX.out.2.bel
                    obtain ⟨_, _, e, hg1l, hf0⟩ := HF.out.2.1 x (by omega)
                    simp at e
                    obtain ⟨rfl, rfl⟩ := e
                    obtain ⟨_, _, e, _, hf1⟩ := HF.out.2.1 (x + 1) (by omega)
                    simp at e
                    obtain ⟨rfl, rfl⟩ := e
                    rw [Nat.zero_add] at hf0 hf1
                    have hfm := HF.out.1.mono x (hnn ▸ hxn)
                    have hx0 : cm x = 0 := by
                      rcases Nat.eq_zero_or_pos (cm x) with h' | h'
                      · exact h'
                      · have h1 := hX.out.1.old x (by omega)
                        have h2 := HK0.out.1.le x
                        have h3 := hxs.1
                        omega
                    have HP : Hid (KX G fi pr cm sz.length v cm2 st3 x (fi x) s ∧ CMem n w3 ga gb cm2 (sz ++ [s]) st3 wr ∧ todoC n cm2 st3 + 1 = todoC n cm2 (st3 ++ [x])) := by
                      refine ⟨KX.pop (hnn.symm ▸ hX.out.1), hX.out.2.popSt, ?_⟩
                      unfold todoC
                      simp only [List.length_append, List.length_singleton]
                      omega
                    have hf0' : wr.cell? ⟨r1, x, none⟩ = some (.int .i64 ((fi x : Nat) : Int)) := (hbB.cell (p := ⟨r1, x, none⟩) hg1l).trans hf0
                    have Hf1 : Hid (w3.cell? ⟨r1, x + 1, none⟩ = some (.int .i64 ((fi (x + 1) : Nat) : Int))) := hf1
                    clear hX hf0 hf1
                    generalize todoC n cm2 (st3 ++ [x]) = T0 at *
                    generalize hfi0 : fi x = f0 at *
                    generalize hfi1 : fi (x + 1) = f1 at *
                    simp only [List.length_append, List.length_singleton]
                    go_wp2
                    go_loopg [18, 23] (f1 - f0) (fun k v18 v23 wr => ∃ (p : Nat) (cm3 : Nat → Nat) (st4 : List Nat) (s' : Nat), f0 ≤ p ∧ p ≤ f1 ∧ f1 - p = k ∧ v23 = .int .i64 p ∧ v18 = .slice (some ⟨gb, 0, none⟩) st4.length n ∧ Hid (KX G fi pr cm sz.length v cm3 st4 x p s' ∧ CMem n w3 ga gb cm3 (sz ++ [s']) st4 wr ∧ todoC n cm3 st4 + 1 = T0))
                    case atStart => exact ⟨f0, cm2, st3, s, by omega, hfm.1, rfl, rfl, rfl, HP⟩
                    case round =>
                      clear HP hxc hf0' hbB hstn
                      obtain ⟨p, cm3, st4, s', hp0, hp1, rfl, rfl, rfl, hX⟩ := hrel
                      have hbB := hX.out.2.1.bel
                      have hf1' : wr.cell? ⟨r1, x + 1, none⟩ = some (.int .i64 ((f1 : Nat) : Int)) := (hbB.cell (p := ⟨r1, x + 1, none⟩) hg1l).trans Hf1.out
                      by_cases hlt2 : p < f1
                      · obtain ⟨_, _, e, hg2l, hpc⟩ := HF.out.2.2.1 p (by omega)
                        simp at e
                        obtain ⟨rfl, rfl⟩ := e
                        rw [Nat.zero_add] at hpc
                        have hpc' : wr.cell? ⟨r2, p, none⟩ = some (.int .i64 ((pr p : Nat) : Int)) := (hbB.cell (p := ⟨r2, p, none⟩) hg2l).trans hpc
                        have hyn : pr p < n := hnn ▸ HF.out.1.lt p (by omega)
                        have hedge : G.Edge (pr p) x := ((HF.out.1.iff x (pr p) (hnn ▸ hxn)).2 ⟨p, by rw [hfi0]; exact hp0, by rw [hfi1]; exact hlt2, rfl⟩).1
                        have md : wr.cell? ⟨w3.heap.size, pr p, none⟩ = some (.int .i64 (((cm3 (pr p) : Nat) : Int) - 1)) := hX.out.2.1.compR.cell hyn
                        have mf : wr.frozen? ⟨w3.heap.size, pr p, none⟩ = false := hX.out.2.1.compR.frozen _
                        clear hpc
                        by_cases hz : cm3 (pr p) = 0
                        · have HK : Hid (KX G fi pr cm sz.length v (upd cm3 (pr p) (sz.length + 1)) (st4 ++ [pr p]) x (p + 1) (s' + 1) ∧ todoC n (upd cm3 (pr p) (sz.length + 1)) (st4 ++ [pr p]) + 1 = T0) :=
                            ⟨hX.out.1.push (hnn ▸ hxn) hz (hnn ▸ hyn) hedge hx0, by rw [todoC_push hyn hz]; exact hX.out.2.2⟩
                          have hs'n : s' ≤ n := by rw [← hX.out.1.size, hnn]; exact cnt_le _ _
                          have hst4 : st4.length + 1 ≤ n := by
                            have := HK.out.1.room
                            simp only [List.length_append, List.length_singleton] at this
                            omega
                          have HS := hX.out.2.1.setComp (pr p) (sz.length + 1)
                          rw [show (((sz.length + 1 : Nat)) : Int) - 1 = ((sz.length : Nat) : Int) by omega] at HS
                          rw [hz] at md
                          clear hX hedge hz
                          generalize pr p = y at *
                          go_upto_region 53 with fail
                          generalize wr.setCell ⟨w3.heap.size, y, none⟩ (.int .i64 ((sz.length : Nat) : Int)) = w6 at *
                          clear md mf hpc' hf1'
                          have ms : w6.cell? ⟨ga, sz.length, none⟩ = some (.int .i64 (s' : Int)) := HS.szR.cell (by simp)
                          have msf : w6.frozen? ⟨ga, sz.length, none⟩ = false := HS.szR.free _
                          have HT := HS.setSz sz.length (s' + 1)
                          rw [show (((s' + 1 : Nat)) : Int) = (s' : Int) + 1 by omega, List.set_append_right _ _ (Nat.le_refl _), Nat.sub_self] at HT
                          have H7 := (show Hid _ from HT)
                          clear HS HT
                          go_upto_region 54 with fail
                          generalize w6.setCell ⟨ga, sz.length, none⟩ (.int .i64 ((s' : Int) + 1)) = w7 at *
                          clear ms msf
                          have hlt7 := H7.out.stR.lt
                          go_wp2_with (at_builtin; refine wpList_append_fits _ rfl (.tmp 208) (.tmp 210) 22 rfl gb 3 i0 1 Try.underlying22 hi0 hz1 gb st4.length n (nums st4) rfl (World.ownsRow.alloc H7.out.stR _) ⟨w7.heap.size, 0, none⟩ 1 1 [.int .i64 (y : Int)] rfl rfl (cell_one_new _ _ _) ?p5 ?p6 ?_)
                          case p5 => intro u hu; simp at hu; subst hu; rfl
                          case p6 => omega
                          intro w8 hown8 hg8
                          have R := (show Hid _ from And.intro HK.out.1 (And.intro (H7.out.pushSt (y := y) hown8 hg8) HK.out.2))
                          clear hown8 hg8 H7 HK
                          go_wp2
                          go_roundg (f1 - (p + 1))
                          case measure => omega
                          case rel =>
                            go_light
                            exact ⟨p + 1, _, st4 ++ [y], s' + 1, by omega, by omega, rfl, by go_num, by simp, R⟩
                        · have R : Hid (KX G fi pr cm sz.length v cm3 st4 x (p + 1) s' ∧ CMem n w3 ga gb cm3 (sz ++ [s']) st4 wr ∧ todoC n cm3 st4 + 1 = T0) := ⟨hX.out.1.skip (hnn ▸ hxn) hz, hX.out.2⟩
                          clear hX hedge
                          generalize pr p = y at *
                          generalize cm3 y = cy at *
                          have hneg : ¬ (((cy : Nat) : Int) - 1 < 0) := by omega
                          go_wp2
                          go_roundg (f1 - (p + 1))
                          case measure => omega
                          case rel =>
                            go_light
                            exact ⟨p + 1, cm3, st4, s', by omega, by omega, rfl, by go_num, rfl, R⟩
                      · have e : f1 = p := by omega
                        subst e
                        have R : Hid (KX G fi pr cm sz.length v cm3 st4 n 0 s' ∧ CMem n w3 ga gb cm3 (sz ++ [s']) st4 wr ∧ todoC n cm3 st4 + 1 = T0) := by
                          have := hX.out.1.scan HF.out.1 (hnn ▸ hxn) (Nat.le_of_eq hfi1)
                          rw [hnn] at this
                          exact ⟨this, hX.out.2⟩
                        clear hX
                        go_wp2
                        go_roundg (todoC n cm3 st4)
                        case measure => have := R.out.2.2; omega
                        case rel =>
                          go_light
                          exact ⟨cm3, st4, s', rfl, rfl, ⟨R.out.1, R.out.2.1⟩⟩
              · have R : Hid (K2 G order cm sz q ∧ CMem n w3 ga gb cm sz st wr) := ⟨hR.out.1.pass hv hc0, hR.out.2⟩
                clear hR hv hol
                generalize cm v = cv at *
                have hge : (0 : Int) ≤ ((cv : Nat) : Int) - 1 := by omega
                go_wp2
                go_roundg q
                case measure => omega
                case rel =>
                  go_light
                  exact ⟨q, sz, st, cm, by omega, rfl, by go_num, rfl, rfl, R⟩
end Go.Proofs.Qxb6601860a
