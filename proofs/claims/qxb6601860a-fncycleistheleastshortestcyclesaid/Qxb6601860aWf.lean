import Derived.Test.Qxb6601860aWe
import Derived.Test.Qxb6601860aWb
import Derived.Test.Qxb6601860aQa
import Derived.Test.Qxb6601860aBb
namespace Go.Proofs.Qxb6601860a
open Go.RowKit
set_option linter.unusedVariables false

/-- A cycle as it is handed out: start, the nodes behind it, and what is said of it. -/
structure Cyc (G : Gr) (start : Nat) (l : List Nat) : Prop where
  lt : start < G.n
  multi : Multi G start
  least : ∀ v, v < start → ¬ Multi G v
  closed : Closed G start l
  short : Asc G → ∀ P, Closed G start P → SLE l P
  len : l.length ≤ 65536

def CyclePost (G : Gr) (w : World) (f : Nat → Int) (e : Ending) (w' : World) : Prop :=
  Below w.heap.size w w' ∧ ((e = .returned (.slice none 0 0) ∧ ∀ v, v < G.n → ¬ Multi G v) ∨
    ∃ g c start l, e = .returned (.slice (some ⟨g, 0, none⟩) (l.length + 1) c) ∧ Cyc G start l ∧ w'.ownsRow w.heap.size 3 1 (.slice (some ⟨g, 0, none⟩) (l.length + 1) c) (l.length + 1) (vals f (start :: l)))

structure Bfs (G : Gr) (comp : Nat → Nat) (start : Nat) (wB : World) (seq : List Nat) (par : Nat → Nat) (pth : Nat → List Nat) (d a : Nat) (v : Value) (q : List Nat) (wr : World) : Prop where
  inv : BI G comp start seq par pth d a
  mem : BM G.n wB par v q wr

set_option maxHeartbeats 4000000 in
set_option maxRecDepth 100000 in
theorem cycle_any (G : Gr) (w : World) (gb : Nat) (T S : Option Addr) (cT cS : Nat) (f : Nat → Int) (hS : Small G) (hgb : gb < w.heap.size)
    (hg0 : w.cell? ⟨gb, 0, none⟩ = some (.slice T G.n cT)) (hg1 : w.cell? ⟨gb, 1, none⟩ = some (.slice S G.n cS)) (hT : Row .i64 w T G.n f) (hM : InMem w S G) :
    Calls Try.prog 27 #[.pointer (some ⟨gb, 0, none⟩)] w (CyclePost G w f) := by
  have hn := hS.n
  have HG : Hid (Row .i64 w T G.n f ∧ InMem w S G ∧ Small G) := ⟨hT, hM, hS⟩
  clear hT hM hS
  generalize hnn : G.n = n at *
  have hmk := run_make_row' (P := Try.prog) 22 3 (.int .i64 0) 8 Try.underlying22 Try.info3 rfl .i64 .i64 n (by omega) (by omega)
  go_enter Try.func27, Try.ntmps27
  go_wp2_with fail
  rw [← hnn]
  refine (components_any G w S cS HG.out.2.2 HG.out.2.1).mono ?_
  rw [hnn]
  rintro e w1 ⟨comp, gc, rfl, hC, hcr, hb1⟩
  have HC : Hid (Comps G comp ∧ Row .i64 w1 (some ⟨gc, 0, none⟩) n (fun v => ((comp v : Nat) : Int)) ∧ Below w.heap.size w w1) := ⟨hC, hnn ▸ hcr, hb1⟩
  clear hC hcr hb1
  rw [hnn]
  have H1 : Hid ((w1.alloc (.cells (madeCells #[.int .i64 0] n) 3)).rowIs w1.heap.size 3 n (fun c => .int .i64 ((sizeOf comp 0 c : Nat) : Int)) ∧ Below w1.heap.size w1 (w1.alloc (.cells (madeCells #[.int .i64 0] n) 3))) :=
    ⟨World.rowIs_made w1 (.int .i64 0) n 3, (Below.refl _ _).alloc (Nat.le_refl _) _⟩
  go_wp2
  go_loopg [25] n (fun k v25 wr => ∃ j : Nat, j ≤ n ∧ n - j = k ∧ v25 = .int .i64 j ∧ Hid (wr.rowIs w1.heap.size 3 n (fun c => .int .i64 ((sizeOf comp j c : Nat) : Int)) ∧ Below w1.heap.size w1 wr))
  case atStart => exact ⟨0, by omega, rfl, rfl, H1⟩
  case round =>
    obtain ⟨j, hj, rfl, rfl, hR⟩ := hrel
    clear H1
    by_cases hlt : j < n
    · obtain ⟨gc', o', e, _, hcc⟩ := HC.out.2.1.below hR.out.2 j hlt
      simp at e
      obtain ⟨rfl, rfl⟩ := e
      rw [Nat.zero_add] at hcc
      have hcc2 : wr.cell? ⟨gc, j, none⟩ = some (.int .i64 ((comp j : Nat) : Int)) := hcc
      clear hcc
      have hcl : comp j < n := hnn ▸ HC.out.1.lt j (hnn ▸ hlt)
      have m0 : wr.cell? ⟨w1.heap.size, comp j, none⟩ = some (.int .i64 ((sizeOf comp j (comp j) : Nat) : Int)) := hR.out.1.cell hcl
      have m1 := hR.out.1.frozen (comp j)
      have hle := sizeOf_le comp j (comp j)
      have R : Hid ((wr.setCell ⟨w1.heap.size, comp j, none⟩ (.int .i64 (((sizeOf comp j (comp j) : Nat) : Int) + 1))).rowIs w1.heap.size 3 n (fun c => .int .i64 ((sizeOf comp (j + 1) c : Nat) : Int)) ∧ Below w1.heap.size w1 (wr.setCell ⟨w1.heap.size, comp j, none⟩ (.int .i64 (((sizeOf comp j (comp j) : Nat) : Int) + 1)))) := by
        refine ⟨(hR.out.1.set (comp j) _).congr (fun c hc => ?_), hR.out.2.setCell (Nat.le_refl _) _⟩
        rw [sizeOf_next]
        by_cases e : c = comp j
        · simp [e]
        · simp [e]
      generalize comp j = cj at *
      generalize sizeOf comp j cj = sj at *
      clear hR
      go_wp2
      go_roundg (n - (j + 1))
      case measure => omega
      case rel =>
        go_light
        exact ⟨j + 1, by omega, rfl, by go_num, R⟩
    · have e : n = j := by omega
      subst e
      obtain ⟨wS, hwS⟩ : ∃ wS, wS = wr := ⟨_, rfl⟩
      subst hwS
      have hR2 := hR
      clear hR
      have HC2 : Hid (Row .i64 wS (some ⟨gc, 0, none⟩) n (fun v => ((comp v : Nat) : Int)) ∧ Comps G comp) := ⟨HC.out.2.1.below hR2.out.2, HC.out.1⟩
      have HB2 : Hid (Below w.heap.size w wS) := bthen HC.out.2.2 hR2.out.2
      have HN2 : Hid (wS.rowIs w1.heap.size 3 n (fun c => .int .i64 ((sizeOf comp n c : Nat) : Int))) := hR2.out.1
      clear hR2 HC
      generalize w1.heap.size = N1 at *
      go_wp2
      go_loopg [3, 38] n (fun k v3 v38 wr => ∃ j : Nat, j ≤ n ∧ n - j = k ∧ v3 = .int .i64 (-1) ∧ v38 = .int .i64 j ∧ Hid (∀ v, v < j → ¬ 1 < sizeOf comp n (comp v)) ∧ wS = wr)
      case atStart => exact ⟨0, by omega, rfl, rfl, rfl, fun v hv => absurd hv (Nat.not_lt_zero _), rfl⟩
      case round =>
        obtain ⟨j, hj, rfl, rfl, rfl, hR, rfl⟩ := hrel
        by_cases hlt : j < n
        · obtain ⟨gc', o', e, _, hcc⟩ := HC2.out.1 j hlt
          simp at e
          obtain ⟨rfl, rfl⟩ := e
          rw [Nat.zero_add] at hcc
          have hcc2 : wS.cell? ⟨gc, j, none⟩ = some (.int .i64 ((comp j : Nat) : Int)) := hcc
          clear hcc
          have hcl : comp j < n := hnn ▸ HC2.out.2.lt j (hnn ▸ hlt)
          have m0 : wS.cell? ⟨N1, comp j, none⟩ = some (.int .i64 ((sizeOf comp n (comp j) : Nat) : Int)) := HN2.out.cell hcl
          have hle := sizeOf_le comp n (comp j)
          by_cases hbig : 1 < sizeOf comp n (comp j)
          · have HS : Hid (j < G.n ∧ Multi G j ∧ ∀ v, v < j → ¬ Multi G v) := by
              refine ⟨hnn ▸ hlt, (size_multi HC2.out.2 (hnn ▸ hlt)).1 (hnn.symm ▸ hbig), fun v hv hm => ?_⟩
              have := (size_multi HC2.out.2 (v := v) (by omega)).2 hm
              rw [hnn] at this
              exact hR.out v hv this
            generalize comp j = cj at *
            generalize sizeOf comp n cj = sj at *
            have hbI : (1 : Int) < (sj : Int) := by omega
            clear hR HN2
            go_upto_region 17 with fail
            clear m0 hcc2 hcl hle hbig hbI
            have hc0 := (HB2.out.cell (p := ⟨gb, 0, none⟩) hgb).trans hg0
            have HI : Hid (Bfs G comp j wS [j] (fun _ => 0) (fun _ => []) 0 0 (.slice (some ⟨wS.heap.size + 1, 0, none⟩) 1 1) [j] ((wS.alloc (.cells (madeCells #[.int .i64 0] n) 3)).alloc (.cells #[.int .i64 (j : Int)] 3))) := by
              have hr := World.rowIs_made wS (.int .i64 0) n 3
              have hQ := Queue.one (wS.alloc (.cells (madeCells #[.int .i64 0] n) 3)) j
              rw [show (wS.alloc (.cells (madeCells #[.int .i64 0] n) 3)).heap.size = wS.heap.size + 1 by simp] at hQ
              refine ⟨BI.init HS.out.1, ?_, hQ, ((Below.refl _ _).alloc (Nat.le_refl _) _).alloc (by simp) _⟩
              rw [hnn]
              exact hr.of_block (Below.heap_alloc _ _ _ (by simp))
            go_wp2
            go_loopg [11] n (fun k v11 wr => ∃ (d : Nat) (seq : List Nat) (par : Nat → Nat) (pth : Nat → List Nat), n - d = k ∧ Hid (Bfs G comp j wS seq par pth d 0 v11 (seq.drop d) wr))
            case atStart => exact ⟨0, [j], fun _ => 0, fun _ => [], rfl, HI⟩
            case round =>
              clear HI hc0
              obtain ⟨d, seq, par, pth, rfl, hR⟩ := hrel
              cases hq : seq.drop d with
              | nil =>
                exfalso
                obtain ⟨z, _, h1, h2, h3⟩ := HS.out.2.1
                obtain ⟨P, hP⟩ := closed_of_two h1 h2 h3
                exact hR.out.inv.never HG.out.2.2.ok HC2.out.2 (List.drop_eq_nil_iff.1 hq) hP
              | cons i q =>
                have hbB : Below w.heap.size w wr := bthen HB2.out hR.out.mem.bel
                have hc0 := (hbB.cell (p := ⟨gb, 0, none⟩) hgb).trans hg0
                have hc1 := (hbB.cell (p := ⟨gb, 1, none⟩) hgb).trans hg1
                have hi : seq[d]? = some i := by
                  have : (seq.drop d)[0]? = some i := by rw [hq]; rfl
                  simpa using this
                have hdl : d < seq.length := (List.getElem?_eq_some_iff.1 hi).1
                have hsl := hR.out.inv.length_le
                rw [hnn] at hsl
                have hin : i < n := hnn ▸ hR.out.inv.lt i (List.mem_of_getElem? hi)
                obtain ⟨sb, so, lx, lc, hSe, hsb, hl0, hlr⟩ := HG.out.2.1 i (hnn ▸ hin)
                have hl1 := (hbB.cell (p := ⟨sb, so + i, none⟩) hsb).trans hl0
                subst hSe
                have hQ := hR.out.mem.que
                rw [hq] at hQ
                obtain ⟨qg, qo, qc, rfl, hq1, hq2, hq3, hq4, hq5, hq6⟩ := id hQ
                have hqc : wr.cell? ⟨qg, qo, none⟩ = some (.int .i64 (i : Int)) := hq6 0 i rfl
                have hQ2 := Queue.rest hQ
                have HQ2 : Hid (Queue wr (wS.heap.size + 1) (.slice (if qc = 1 then some ⟨qg, qo, none⟩ else some ⟨qg, qo + 1, none⟩) q.length (qc - 1)) q) := hQ2
                have hdeg := HG.out.2.2.deg i (hnn ▸ hin)
                have HL : Hid (Row .i64 w lx (G.deg i) (fun k => ((G.adj i k : Nat) : Int))) := hlr
                have Hi : Hid (seq[d]? = some i ∧ seq.drop d = i :: q) := ⟨hi, hq⟩
                clear hQ hQ2 hq5 hq6 hi hq hlr hl0
                simp only [List.length_cons] at hq3 ⊢
                go_upto_region 22 with fail
                generalize Value.slice (if qc = 1 then some (⟨qg, qo, none⟩ : Addr) else some ⟨qg, qo + 1, none⟩) q.length (qc - 1) = qv at *
                have HI : Hid (Bfs G comp j wS seq par pth d 0 qv (seq.drop (d + 1)) wr ∧ seq[d]? = some i) := by
                  refine ⟨⟨hR.out.inv, hR.out.mem.row, ?_, hR.out.mem.bel⟩, Hi.out.1⟩
                  have : seq.drop (d + 1) = q := by
                    have := Hi.out.2
                    rw [← List.drop_drop, this]; rfl
                  rw [this]
                  exact HQ2.out
                clear HQ2 hR hqc hq1 hq2 hq3 hq4 Hi
                go_wp2
                generalize hdd : G.deg i = di at *
                go_loopg [11, 76] di (fun k v11 v76 wr => ∃ (a : Nat) (seq : List Nat) (par : Nat → Nat) (pth : Nat → List Nat), a ≤ di ∧ di - a = k ∧ v76 = .int .i64 a ∧ Hid (Bfs G comp j wS seq par pth d a v11 (seq.drop (d + 1)) wr ∧ seq[d]? = some i))
                case atStart => exact ⟨0, seq, par, pth, by omega, rfl, rfl, HI⟩
                case round =>
                  clear HI hc0 hc1 hl1 hbB hdl hsl
                  obtain ⟨a, seq, par, pth, ha, rfl, rfl, hR⟩ := hrel
                  have hbB : Below w.heap.size w wr := bthen HB2.out hR.out.1.mem.bel
                  have hc0 := (hbB.cell (p := ⟨gb, 0, none⟩) hgb).trans hg0
                  have hdl : d < seq.length := (List.getElem?_eq_some_iff.1 hR.out.2).1
                  have hsl := hR.out.1.inv.length_le
                  rw [hnn] at hsl
                  by_cases hlt2 : a < di
                  · obtain ⟨lb, lo, hle, _, hlc⟩ := HL.out.below hbB a hlt2
                    subst hle
                    have hyn : G.adj i a < n := hnn ▸ HG.out.2.2.ok i (hnn ▸ hin) a (hdd ▸ hlt2)
                    have hlc2 : wr.cell? ⟨lb, lo + a, none⟩ = some (.int .i64 ((G.adj i a : Nat) : Int)) := hlc
                    clear hlc
                    by_cases hys : G.adj i a = j
                    · have hfnd := hR.out.1.inv.found HG.out.2.2.ok HC2.out.2 hR.out.2 ⟨a, hdd ▸ hlt2, hys⟩
                      have him : i ∈ seq := List.mem_of_getElem? hR.out.2
                      have hch := hR.out.1.inv.chain i him
                      have hpl := hR.out.1.inv.len i him
                      have hpath := path_any wr gb T (some ⟨wS.heap.size, 0, none⟩) cT n n j i f par (pth i).reverse hc0 (by have := hbB.size; omega) (HG.out.1.below hbB) (Row.of_rowIs (hnn ▸ hR.out.1.mem.row)) hch
                        (fun x hx => by have := hR.out.1.inv.mem i him x (by simpa using hx); exact hnn ▸ hR.out.1.inv.lt x this) (by omega) hn (by rw [List.length_reverse]; omega)
                        (fun x _ => by have := hR.out.1.inv.parLe x; omega)
                      have HY : Hid (Cyc G j (pth i)) := ⟨HS.out.1, HS.out.2.1, HS.out.2.2, hfnd.1, hfnd.2, by omega⟩
                      have Hpath : Hid (Calls Try.prog 26 #[.pointer (some ⟨gb, 0, none⟩), .slice (some ⟨wS.heap.size, 0, none⟩) n n, .int .i64 j, .int .i64 i] wr (PathPost wr f j (pth i).reverse)) := hpath
                      clear hfnd hch hpl hpath hR
                      rw [hys] at hlc2
                      go_wp2_with fail
                      refine Calls.mono (show Calls Try.prog 26 #[.pointer (some ⟨gb, 0, none⟩), .slice (some ⟨wS.heap.size, 0, none⟩) n n, .int .i64 j, .int .i64 i] wr (PathPost wr f j (pth i).reverse) from Hpath.out) ?_
                      rintro e w3 ⟨pg, pc, rfl, hown, hb3⟩
                      rw [List.reverse_reverse, List.length_reverse] at *
                      have HF : Hid (Below w.heap.size w w3 ∧ w3.ownsRow w.heap.size 3 1 (.slice (some ⟨pg, 0, none⟩) ((pth i).length + 1) pc) ((pth i).length + 1) (vals f (j :: pth i))) := by
                        refine ⟨bthen hbB hb3, hown.1, ?_⟩
                        rcases hown.2 with h | ⟨g, c, cur, h1, h2, h3⟩
                        · exact .inl h
                        · exact .inr ⟨g, c, cur, h1, by have := hbB.size; omega, h3⟩
                      clear hown hb3 Hpath
                      go_wp2
                      go_ret
                      exact ⟨HF.out.1, .inr ⟨_, _, _, _, rfl, HY.out, HF.out.2⟩⟩
                    · have hysB : (((G.adj i a : Nat) : Int) == ((j : Nat) : Int)) = false := by simp; omega
                      have hp0 : wr.cell? ⟨wS.heap.size, G.adj i a, none⟩ = some (.int .i64 ((par (G.adj i a) : Nat) : Int)) := (hnn ▸ hR.out.1.mem.row).cell hyn
                      have hp1 : wr.frozen? ⟨wS.heap.size, G.adj i a, none⟩ = false := hR.out.1.mem.row.frozen (G.adj i a)
                      have hcr := HC2.out.1.below hR.out.1.mem.bel
                      obtain ⟨gc', o', e, _, hcy⟩ := hcr (G.adj i a) hyn
                      simp at e
                      obtain ⟨rfl, rfl⟩ := e
                      obtain ⟨gc', o', e, _, hcj⟩ := hcr j (by omega)
                      simp at e
                      obtain ⟨rfl, rfl⟩ := e
                      rw [Nat.zero_add] at hcy hcj
                      have hcy2 : wr.cell? ⟨gc, G.adj i a, none⟩ = some (.int .i64 ((comp (G.adj i a) : Nat) : Int)) := hcy
                      have hcj2 : wr.cell? ⟨gc, j, none⟩ = some (.int .i64 ((comp j : Nat) : Int)) := hcj
                      have hjn : j < n := by omega
                      clear hcy hcj hcr
                      by_cases hpz : par (G.adj i a) = 0
                      · have HB : Hid (BM n wS par u11 (seq.drop (d + 1)) wr ∧ seq[d]? = some i) := ⟨hnn ▸ hR.out.1.mem, hR.out.2⟩
                        by_cases hcc : comp (G.adj i a) = comp j
                        · have R : Hid (BI G comp j (seq ++ [G.adj i a]) (upd par (G.adj i a) (i + 1)) (fun v => if v = G.adj i a then pth i ++ [G.adj i a] else pth v) d (a + 1)) :=
                            hR.out.1.inv.push HG.out.2.2.ok hR.out.2 (hdd ▸ hlt2) hys hpz hcc
                          clear hR
                          rw [hcc] at hcy2
                          rw [hpz] at hp0
                          generalize G.adj i a = y at *
                          generalize comp j = cz at *
                          go_upto_region 27 with fail
                          go_quiet (fail)
                          have HB4 : Hid (BM n wS par u11 (seq.drop (d + 1)) (wr.drewN nq)) := HB.out.1.of_heap rfl (below_drewN HB.out.1.bel _)
                          have hp0' : (wr.drewN nq).cell? ⟨wS.heap.size, y, none⟩ = some (.int .i64 0) := hp0
                          have hp1' : (wr.drewN nq).frozen? ⟨wS.heap.size, y, none⟩ = false := hp1
                          have Hi2 : Hid (seq[d]? = some i) := HB.out.2
                          clear HB hp0 hp1 hcy2 hcj2 hlc2 hc0
                          generalize wr.drewN nq = w4 at *
                          go_upto_region 29 with fail
                          have HB5 := HB4.out.set y (i + 1)
                          rw [show (((i + 1 : Nat)) : Int) = (i : Int) + 1 by omega] at HB5
                          generalize w4.setCell ⟨wS.heap.size, y, none⟩ (.int .i64 ((i : Int) + 1)) = w5 at *
                          clear HB4 hp0' hp1'
                          have Hq : Hid ((seq ++ [y]).drop (d + 1) = seq.drop (d + 1) ++ [y] ∧ (seq ++ [y])[d]? = some i) :=
                            ⟨List.drop_append_of_le_length (by omega), by rw [List.getElem?_append_left hdl]; exact Hi2.out⟩
                          have hqn : (seq.drop (d + 1)).length ≤ n := by rw [List.length_drop]; omega
                          generalize seq.drop (d + 1) = qq at *
                          have HB6 := HB5.alloc (.cells #[.int .i64 (y : Int)] 3)
                          obtain ⟨g2, o2, c2, rfl, k1, k2, k3, k4, k5, k6⟩ := id HB6.que
                          have K : Hid ((∀ k, k < c2 → ((w5.alloc (.cells #[.int .i64 (y : Int)] 3)).cell? ⟨g2, o2 + k, none⟩).isSome = true ∧ (w5.alloc (.cells #[.int .i64 (y : Int)] 3)).frozen? ⟨g2, o2 + k, none⟩ = false) ∧ ∀ k x, qq[k]? = some x → (w5.alloc (.cells #[.int .i64 (y : Int)] 3)).cell? ⟨g2, o2 + k, none⟩ = some (.int .i64 (x : Nat))) := ⟨k5, k6⟩
                          have H6 := (show Hid (BM n wS (upd par y (i + 1)) (.slice (some ⟨g2, o2, none⟩) qq.length c2) qq (w5.alloc (.cells #[.int .i64 (y : Int)] 3))) from HB6)
                          clear HB5 HB6 k1 k2 k5 k6
                          obtain ⟨i0, hi0, hz0, hz1, hz3⟩ := info_parts Try.info3
                          go_wp2_with (at_builtin; refine wpList_append_arg _ rfl (.tmp 109) (.tmp 111) 22 rfl 3 i0 (.int .i64 0) 1 8 Try.underlying22 hi0 hz0 hz1 hz3 rfl (by decide) g2 o2 qq.length c2 (nums qq) rfl (by rw [nums_length, Nat.mul_one]) ?ol ⟨w5.heap.size, 0, none⟩ 1 1 [.int .i64 (y : Int)] rfl rfl (cell_one_new _ _ _) ?oc ?sp ?ml ?bt ?room ?grow)
                          case ol =>
                            intro k u hu
                            unfold nums at hu
                            rw [List.getElem?_map] at hu
                            cases hx : qq[k]? with
                            | none => rw [hx] at hu; cases hu
                            | some x => rw [hx] at hu; cases hu; exact K.out.2 k x hx
                          case oc => intro u hu; simp at hu; subst hu; rfl
                          case sp =>
                            intro hr k hk
                            have hk0 : k = 0 := by simp at hk; exact hk
                            subst hk0
                            rw [Nat.mul_one, Nat.add_zero]
                            exact K.out.1 qq.length (by omega)
                          case ml => unfold maxLen; omega
                          case bt => omega
                          case room =>
                            intro hr
                            have H7' := H6.out.room hr y
                            rw [Nat.mul_one] at H7'
                            have H7 := (show Hid _ from H7')
                            clear H6 K H7'
                            go_wp2
                            go_roundg (di - (a + 1))
                            case measure => omega
                            case rel =>
                              go_light
                              exact ⟨a + 1, _, _, _, by omega, rfl, by go_num, ⟨⟨R.out, by rw [hnn, Hq.out.1]; exact H7.out⟩, Hq.out.2⟩⟩
                          case grow =>
                            intro hr v7 w7 ho hg
                            have H7 := (show Hid _ from H6.out.grow (y := y) (v' := v7) (w' := w7) (by rw [show (w5.alloc (.cells #[.int .i64 (y : Int)] 3)).heap.size = w5.heap.size + 1 by simp]; exact ho) hg)
                            clear H6 K ho hg
                            go_wp2
                            go_roundg (di - (a + 1))
                            case measure => omega
                            case rel =>
                              go_light
                              exact ⟨a + 1, _, _, _, by omega, rfl, by go_num, ⟨⟨R.out, by rw [hnn, Hq.out.1]; exact H7.out⟩, Hq.out.2⟩⟩
                        · have R : Hid (BI G comp j seq par pth d (a + 1)) := hR.out.1.inv.skip hR.out.2 (hdd ▸ hlt2) hys (.inr hcc)
                          clear hR
                          rw [hpz] at hp0
                          have hccB : (((comp (G.adj i a) : Nat) : Int) == ((comp j : Nat) : Int)) = false := by simp; omega
                          generalize G.adj i a = y at *
                          generalize comp y = cy at *
                          generalize comp j = cz at *
                          go_upto_region 27 with fail
                          go_quiet (fail)
                          go_wp2
                          go_roundg (di - (a + 1))
                          case measure => omega
                          case rel =>
                            go_light
                            exact ⟨a + 1, seq, par, pth, by omega, rfl, by go_num, ⟨⟨R.out, hnn ▸ HB.out.1.of_heap rfl (below_drewN HB.out.1.bel _)⟩, HB.out.2⟩⟩
                      · have R : Hid (BI G comp j seq par pth d (a + 1)) := hR.out.1.inv.skip hR.out.2 (hdd ▸ hlt2) hys (.inl hpz)
                        have HB : Hid (BM n wS par u11 (seq.drop (d + 1)) wr ∧ seq[d]? = some i) := ⟨hnn ▸ hR.out.1.mem, hR.out.2⟩
                        clear hR
                        generalize G.adj i a = y at *
                        generalize par y = py at *
                        have hpzB : (((py : Nat) : Int) == 0) = false := by simp; omega
                        go_upto_region 27 with fail
                        go_quiet (fail)
                        go_wp2
                        go_roundg (di - (a + 1))
                        case measure => omega
                        case rel =>
                          go_light
                          exact ⟨a + 1, seq, par, pth, by omega, rfl, by go_num, ⟨⟨R.out, hnn ▸ HB.out.1.of_heap rfl (below_drewN HB.out.1.bel _)⟩, HB.out.2⟩⟩
                  · have e : di = a := by omega
                    subst e
                    have R : Hid (BI G comp j seq par pth (d + 1) 0) := hR.out.1.inv.next hR.out.2 (Nat.le_of_eq hdd)
                    have HB : Hid (BM n wS par u11 (seq.drop (d + 1)) wr) := hnn ▸ hR.out.1.mem
                    clear hR
                    go_wp2
                    go_roundg (n - (d + 1))
                    case measure => omega
                    case rel =>
                      go_light
                      exact ⟨d + 1, seq, par, pth, rfl, ⟨R.out, hnn ▸ HB.out⟩⟩
          · have R : Hid (∀ v, v < j + 1 → ¬ 1 < sizeOf comp n (comp v)) := fun v hv => by
              by_cases e : v = j
              · subst e; exact hbig
              · exact hR.out v (by omega)
            generalize comp j = cj at *
            generalize sizeOf comp n cj = sj at *
            clear hR
            go_wp2
            go_roundg (n - (j + 1))
            case measure => omega
            case rel =>
              go_light
              exact ⟨j + 1, by omega, rfl, rfl, by go_num, R, rfl⟩
        · have e : n = j := by omega
          subst e
          have HF : Hid (∀ v, v < G.n → ¬ Multi G v) := fun v hv hm => by
            have := (size_multi HC2.out.2 hv).2 hm
            rw [hnn] at this
            exact hR.out v (hnn ▸ hv) this
          clear hR
          go_wp2
          go_ret
          exact ⟨HB2.out, .inl ⟨rfl, HF.out⟩⟩
end Go.Proofs.Qxb6601860a
