import Derived.Test.Qxb6601860aWa
import Derived.Test.Qxb6601860aMb
namespace Go.Proofs.Qxb6601860a
open Go.RowKit
set_option linter.unusedVariables false

/-- The lists of a graph, in memory. -/
def InMem (w : World) (a : Option Addr) (G : Gr) : Prop := Lists w a G.n G.deg (fun v k => ((G.adj v k : Nat) : Int))
/-- The graph's sizes. -/
structure Small (G : Gr) : Prop where
  ok : G.Ok
  n : G.n ≤ 65536
  deg : ∀ v, v < G.n → G.deg v ≤ 1048576

def CompPost (G : Gr) (w : World) (e : Ending) (w' : World) : Prop :=
  ∃ (c : Nat → Nat) (g : Nat), e = .returned (.slice (some ⟨g, 0, none⟩) G.n G.n) ∧ Comps G c ∧ Row .i64 w' (some ⟨g, 0, none⟩) G.n (fun v => ((c v : Nat) : Int)) ∧ Below w.heap.size w w'

theorem size4 : ∀ (w : World) (o : Obj), (w.alloc o).heap.size = w.heap.size + 1 := fun w o => by simp

/-- The memory as Components lays it. -/
def W0 (w : World) (n : Nat) : World :=
  (((((((((w.alloc (.cells (madeCells #[.int .i64 0] n) 3)).alloc (.cells #[.slice (some ⟨w.heap.size, 0, none⟩) n n] 22)).alloc (.cells (madeCells #[.int .i64 0] n) 3)).alloc
    (.cells #[.slice (some ⟨w.heap.size + 2, 0, none⟩) n n] 22)).alloc (.cells (madeCells #[.int .i64 0] n) 3)).alloc (.cells (madeCells #[.bool false] n) 4)).alloc
    (.cells #[.slice (some ⟨w.heap.size + 5, 0, none⟩) n n] 53)).alloc (.cells #[.slice none 0 0] 22)).alloc (.cells #[.slice none 0 0] 57)).alloc (.cells #[.int .i64 0] 3)

theorem al_old {w : World} {o : Obj} {k : Nat} {x : Obj} (h : w.heap[k]? = some x) : (w.alloc o).heap[k]? = some x :=
  (Below.heap_alloc w o k (lt_of_block h)).trans h
theorem al_new (w : World) (o : Obj) : (w.alloc o).heap[w.heap.size]? = some o := Go.Deep.blk_alloc_new w o

theorem mem_init (w : World) (n : Nat) : Mem w.heap.size n TS.init (.slice none 0 0) (.slice none 0 0) (W0 w n) := by
  have s1 : ∀ (w : World) (o : Obj) (k : Nat), w.heap.size = k → (w.alloc o).heap.size = k + 1 := fun w o k h => by rw [size4, h]
  have nw : ∀ (w : World) (o : Obj) (k : Nat), w.heap.size = k → (w.alloc o).heap[k]? = some o := fun w o k h => by rw [← h]; exact al_new w o
  have rw' : ∀ (w : World) (z : Value) (t k : Nat) (f : Nat → Value), w.heap.size = k → (∀ i, i < n → z = f i) → (w.alloc (.cells (madeCells #[z] n) t)).rowIs k t n f := fun w z t k f h e => by
    rw [← h]; exact (World.rowIs_made w z n t).congr (fun i hi => e i hi)
  unfold W0
  refine ⟨?_, ?_, ?_, ?_, ?_, ?_, ?_, ?_, World.ownsRow_nil _ _ _ _, ?_, World.ownsRow_nil _ _ _ _, ?_, ?_⟩
  · exact (((((((((rw' w (.int .i64 0) 3 _ _ rfl (fun i _ => rfl)).alloc _).alloc _).alloc _).alloc _).alloc _).alloc _).alloc _).alloc _).alloc _
  · exact al_old (al_old (al_old (al_old (al_old (al_old (al_old (al_old (nw _ _ _ (s1 _ _ _ rfl)))))))))
  · exact (((((((rw' _ (.int .i64 0) 3 _ _ (s1 _ _ _ (s1 _ _ _ rfl)) (fun i _ => rfl)).alloc _).alloc _).alloc _).alloc _).alloc _).alloc _).alloc _
  · exact al_old (al_old (al_old (al_old (al_old (al_old (nw _ _ _ (s1 _ _ _ (s1 _ _ _ (s1 _ _ _ rfl)))))))))
  · exact (((((rw' _ (.int .i64 0) 3 _ _ (s1 _ _ _ (s1 _ _ _ (s1 _ _ _ (s1 _ _ _ rfl)))) (fun i _ => rfl)).alloc _).alloc _).alloc _).alloc _).alloc _
  · exact ((((rw' _ (.bool false) 4 _ _ (s1 _ _ _ (s1 _ _ _ (s1 _ _ _ (s1 _ _ _ (s1 _ _ _ rfl))))) (fun i _ => rfl)).alloc _).alloc _).alloc _).alloc _
  · exact al_old (al_old (al_old (nw _ _ _ (s1 _ _ _ (s1 _ _ _ (s1 _ _ _ (s1 _ _ _ (s1 _ _ _ (s1 _ _ _ rfl)))))))))
  · exact al_old (al_old (nw _ _ _ (s1 _ _ _ (s1 _ _ _ (s1 _ _ _ (s1 _ _ _ (s1 _ _ _ (s1 _ _ _ (s1 _ _ _ rfl)))))))))
  · exact al_old (nw _ _ _ (s1 _ _ _ (s1 _ _ _ (s1 _ _ _ (s1 _ _ _ (s1 _ _ _ (s1 _ _ _ (s1 _ _ _ (s1 _ _ _ rfl)))))))))
  · exact nw _ _ _ (s1 _ _ _ (s1 _ _ _ (s1 _ _ _ (s1 _ _ _ (s1 _ _ _ (s1 _ _ _ (s1 _ _ _ (s1 _ _ _ (s1 _ _ _ rfl)))))))))
  · exact Nat.le_of_eq (s1 _ _ _ (s1 _ _ _ (s1 _ _ _ (s1 _ _ _ (s1 _ _ _ (s1 _ _ _ (s1 _ _ _ (s1 _ _ _ (s1 _ _ _ (s1 _ _ _ rfl)))))))))).symm

theorem below_init (w : World) (n : Nat) : Below w.heap.size w (W0 w n) := by
  unfold W0
  have h0 : Below w.heap.size w w := Below.refl _ _
  have al : ∀ {v : World} (o : Obj), Below w.heap.size w v → Below w.heap.size w (v.alloc o) := fun o h => h.alloc h.size o
  exact al _ (al _ (al _ (al _ (al _ (al _ (al _ (al _ (al _ (al _ h0)))))))))

def OuterR (G : Gr) (N n j : Nat) (s : TS) (sv cv : Value) (wr : World) : Prop := Mem N n s sv cv wr ∧ Inv G s ∧ s.gray = [] ∧ ∀ v, v < j → s.vis v ≠ 0
def InnerR (G : Gr) (N n j : Nat) (s : TS) (sv cv : Value) (wr : World) : Prop := Mem N n s sv cv wr ∧ Inv G s ∧ ∀ v, v < j + 1 → s.vis v ≠ 0

theorem enter_root {G : Gr} {s : TS} {j : Nat} (h : Inv G s) (hg : s.gray = []) (hj : s.vis j = 0) (hn : j < G.n) : Inv G (s.enter j) :=
  inv_enter { h with seen := fun v hv k hk => .inl ((h.seen v hv k hk).resolve_right id) } hj hn (fun g hgg => by rw [hg] at hgg; cases hgg)

theorem vis_enter {s : TS} {j : Nat} (v : Nat) (h : s.vis v ≠ 0) : (s.enter j).vis v ≠ 0 := by
  show upd s.vis j (s.cnt + 1) v ≠ 0
  by_cases e : v = j
  · subst e; rw [upd_same]; omega
  · rw [upd_ne _ _ e]; exact h
theorem vis_enter_self {s : TS} {j : Nat} : (s.enter j).vis j ≠ 0 := by
  show upd s.vis j (s.cnt + 1) j ≠ 0
  rw [upd_same]; omega

theorem list_last (l : List Nat) : l = [] ∨ ∃ gs i, l = gs ++ [i] := by
  rcases List.eq_nil_or_concat l with h | ⟨L, b, h⟩
  · exact .inl h
  · exact .inr ⟨L, b, by rw [h, List.concat_eq_append]⟩

/-- What the round finds of the top frame. -/
theorem top_facts {G : Gr} {N n j : Nat} {s : TS} {sv cv : Value} {wr : World} (h : InnerR G N n j s sv cv wr) {gs : List Nat} {i : Nat} (hg : s.gray = gs ++ [i]) :
    i < G.n ∧ i ∉ gs ∧ s.onS i = true ∧ gs.length < G.n ∧ s.vis i ≠ 0 := by
  have hi : i ∈ s.gray := by rw [hg]; simp
  have ho := h.2.1.grayMem i hi
  have hs := h.2.1.graySorted
  rw [hg, List.pairwise_append] at hs
  refine ⟨h.2.1.visLt i (h.2.1.onSVis i ho), fun hm => ?_, ho, ?_, h.2.1.onSVis i ho⟩
  · have := hs.2.2 i hm i (by simp); omega
  · have h1 := h.2.1.grayLen
    have h2 := cnt_le_n h.2.1
    rw [hg] at h1
    simp at h1
    omega

theorem arc_edge {G : Gr} {i k : Nat} (h : k < G.deg i) : G.Edge i (G.adj i k) := ⟨k, h, rfl⟩

theorem gray_reach {G : Gr} {s : TS} (h : Inv G s) {gs : List Nat} {i : Nat} (hg : s.gray = gs ++ [i]) (ho : s.onS i = true) : ∀ g, g ∈ s.gray → G.Reach g i := fun g hgg =>
  h.down g hgg i ho (((gray_mem hg g).1 hgg).elim (fun e => Nat.le_of_lt (gray_last h hg g e)) (fun e => by rw [e]; exact Nat.le_refl _))

theorem step_enter {G : Gr} {s : TS} (h : Inv G s) (hG : G.Ok) {gs : List Nat} {i : Nat} (hg : s.gray = gs ++ [i]) (hi : i < G.n) (ho : s.onS i = true) (hd : s.ptr i < G.deg i) (hv : s.vis (G.adj i (s.ptr i)) = 0) : Inv G ((s.bump i).enter (G.adj i (s.ptr i))) := by
  have him : i ∈ s.gray := by rw [hg]; simp
  refine inv_enter (inv_bump h him hd (fun ho => absurd hv (h.onSVis _ ho))) hv (hG i hi _ hd) (fun g hgg => (gray_reach h hg ho g hgg).trans (Gr.Reach.edge (arc_edge hd)))

theorem step_low {G : Gr} {s : TS} (h : Inv G s) {gs : List Nat} {i : Nat} (hg : s.gray = gs ++ [i]) (hd : s.ptr i < G.deg i) (ho : s.onS (G.adj i (s.ptr i)) = true) : Inv G ((s.lower i (s.vis (G.adj i (s.ptr i)))).bump i) := by
  have him : i ∈ s.gray := by rw [hg]; simp
  have h1 := inv_lower h him ho (Gr.Reach.edge (arc_edge hd))
  exact inv_settle (inv_bump h1 him hd (fun _ => by
    show upd s.low i (min (s.low i) (s.vis (G.adj i (s.ptr i)))) i ≤ s.vis (G.adj i (s.ptr i))
    rw [upd_same]; exact Nat.min_le_right _ _)) (h.onSVis _ ho)

theorem step_skip {G : Gr} {s : TS} (h : Inv G s) {gs : List Nat} {i : Nat} (hg : s.gray = gs ++ [i]) (hd : s.ptr i < G.deg i) (hv : s.vis (G.adj i (s.ptr i)) ≠ 0) (ho : s.onS (G.adj i (s.ptr i)) = false) : Inv G (s.bump i) := by
  have him : i ∈ s.gray := by rw [hg]; simp
  exact inv_settle (inv_bump h him hd (fun h' => by rw [ho] at h'; cases h')) hv

theorem min_int (a b : Nat) : (if b < a then ((b : Nat) : Int) else ((a : Nat) : Int)) = ((min a b : Nat) : Int) := by
  split
  · rw [Nat.min_eq_right (by omega)]
  · rw [Nat.min_eq_left (by omega)]

theorem step_caller {G : Gr} {s : TS} (h : Inv G s) {gt : List Nat} {cc i : Nat} (hg : s.gray = gt ++ [cc] ++ [i]) :
    Inv G (s.lower cc (s.low i)) ∧ cc < G.n ∧ cc ≠ i ∧ (s.lower cc (s.low i)).low cc ≤ (s.lower cc (s.low i)).low i := by
  have hc : cc ∈ s.gray := by rw [hg]; simp
  have hi : i ∈ s.gray := by rw [hg]; simp
  have hlt := gray_last h hg cc (by simp)
  have hne : cc ≠ i := fun e => by rw [e] at hlt; omega
  have hoi := h.grayMem i hi
  obtain ⟨y, hy, h1, h2⟩ := h.lowHit i hoi
  have h3 := inv_lower h hc hy ((h.down cc hc i hoi (Nat.le_of_lt hlt)).trans h2)
  rw [h1] at h3
  refine ⟨h3, h.visLt cc (h.onSVis cc (h.grayMem cc hc)), hne, ?_⟩
  show upd s.low cc (min (s.low cc) (s.low i)) cc ≤ upd s.low cc (min (s.low cc) (s.low i)) i
  rw [upd_same, upd_ne _ _ (Ne.symm hne)]
  exact Nat.min_le_right _ _

/-- While a component is taken off the stack. -/
def TS.part (s : TS) (gs st T : List Nat) : TS :=
  { s with gray := gs, stack := st, onS := fun v => s.onS v && !decide (v ∈ T), comp := fun v => if v ∈ T then s.comps else s.comp v }

theorem Mem.closed {N n : Nat} {s : TS} {sv cv : Value} {w : World} {gs pre T : List Nat} (h : Mem N n (s.part gs pre T) sv cv w) : Mem N n (s.close gs pre T) sv cv w :=
  ⟨h.visR, h.visB, h.lowR, h.lowB, h.compR, h.onSR, h.onSB, h.stkB, h.stkR, h.calB, h.calR, h.cntB, h.size⟩

theorem Mem.started {N n : Nat} {s : TS} {sv cv : Value} {w : World} {gs : List Nat} (h : Mem N n (s.pop gs) sv cv w) : Mem N n (s.part gs s.stack []) sv cv w :=
  ⟨h.visR, h.visB, h.lowR, h.lowB, h.compR.congr (fun v _ => by simp [TS.part, TS.pop]), h.onSR.congr (fun v _ => by simp [TS.part, TS.pop]), h.onSB, h.stkB, h.stkR, h.calB, h.calR, h.cntB, h.size⟩

/-- One node is taken off the stack. -/
theorem Mem.taken {N n : Nat} {s : TS} {sv cv : Value} {w : World} {gs st T : List Nat} {x g cap : Nat} (h : Mem N n (s.part gs (st ++ [x]) T) sv cv w) (hv : sv = .slice (some ⟨g, 0, none⟩) (st.length + 1) cap) :
    Mem N n (s.part gs st (x :: T)) (.slice (some ⟨g, 0, none⟩) st.length cap) cv
      (((w.setCell ⟨N + 7, 0, none⟩ (.slice (some ⟨g, 0, none⟩) st.length cap)).setCell ⟨N + 5, x, none⟩ (.bool false)).setCell ⟨N + 4, x, none⟩ (.int .i64 (s.comps : Nat))) := by
  have h1 := h.popStk (pre := st) (i := x) rfl hv
  have h2 := h1.setOnS x false (fun v => s.onS v && !decide (v ∈ x :: T)) (fun v => by
    show _ = if v = x then false else (s.onS v && !decide (v ∈ T))
    by_cases e : v = x
    · simp [e]
    · simp [e])
  have h3 := h2.setCompF x s.comps (fun v => if v ∈ x :: T then s.comps else s.comp v) (fun v => by
    show _ = if v = x then s.comps else (if v ∈ T then s.comps else s.comp v)
    by_cases e : v = x
    · simp [e]
    · simp [e])
  exact ⟨h3.visR, h3.visB, h3.lowR, h3.lowB, h3.compR, h3.onSR, h3.onSB, h3.stkB, h3.stkR, h3.calB, h3.calR, h3.cntB, h3.size⟩

set_option maxRecDepth 100000 in
set_option maxHeartbeats 4000000 in
theorem components_any (G : Gr) (w : World) (a : Option Addr) (c : Nat) (hS : Small G) (hG : InMem w a G) :
    Calls Try.prog 29 #[.slice a G.n c] w (CompPost G w) := by
  have hn := hS.n
  have HG : Hid (InMem w a G ∧ Small G) := ⟨hG, hS⟩
  clear hG hS
  obtain ⟨n, hnn⟩ : ∃ n, n = G.n := ⟨_, rfl⟩
  rw [← hnn] at hn ⊢
  have HN : Hid (n = G.n) := hnn
  clear hnn
  have hmk := run_make_row' (P := Try.prog) 22 3 (.int .i64 0) 8 Try.underlying22 Try.info3 rfl .i64 .i64 n (by omega) (by omega)
  have hmk2 := run_make_row' (P := Try.prog) 53 4 (.bool false) 1 Try.underlying53 Try.info4 rfl .i64 .i64 n (by omega) (by omega)
  go_enter Try.func29, Try.ntmps29
  go_wp2
  simp only [Nat.add_assoc, Nat.reduceAdd]
  obtain ⟨wi, hwi⟩ : ∃ wi, wi = W0 w n := ⟨_, rfl⟩
  have hbi : Below w.heap.size w wi := by rw [hwi]; exact below_init w n
  have HMi : Hid (Mem w.heap.size n TS.init (.slice none 0 0) (.slice none 0 0) wi) := by rw [hwi]; exact mem_init w n
  have HWi : Hid (wi = W0 w n) := hwi
  clear hwi hmk hmk2
  unfold W0 at HWi
  rw [← HWi.out]
  clear HWi
  obtain ⟨N, hN⟩ : ∃ N, N = w.heap.size := ⟨_, rfl⟩
  rw [← hN] at HMi hbi ⊢
  have HNN : Hid (N = w.heap.size) := hN
  clear hN
  go_loopg [11, 31] n (fun k cs r wr => ∃ (j : Nat) (s : TS) (sv cv : Value), j ≤ n ∧ n - j = k ∧ r = .int .i64 j ∧ cs = .int .i64 (s.comps : Nat) ∧ Hid (OuterR G N n j s sv cv wr) ∧ Below N w wr)
  case atStart => exact ⟨0, TS.init, _, _, by omega, rfl, rfl, rfl, ⟨HMi.out, inv_init G, rfl, fun v hv => by omega⟩, hbi⟩
  case round =>
    clear HMi hbi wi
    obtain ⟨j, s, sv, cv, hj, rfl, rfl, rfl, hR, hbel⟩ := hrel
    by_cases hlt : j < n
    · have c1 := cell_of_one hR.out.1.visB
      have v0 := hR.out.1.visR.cell hlt
      by_cases hv : s.vis j = 0
      · have q0 : (((s.vis j : Nat) : Int) != 0) = false := by rw [hv]; rfl
        have HV : Hid (s.vis j = 0) := hv
        clear hv
        have hnG := HN.out
        go_wp2_with fail
        refine (enter_any N n s sv cv wr j hn hlt (by rw [hnG]; exact cnt_lt_n hR.out.2.1 (by omega) HV.out) (by have h1 := hR.out.2.1.compsLe; have h2 := cnt_le_n hR.out.2.1; omega) (by have h1 := hR.out.2.1.grayLen; have h2 := cnt_le_n hR.out.2.1; omega) (hR.out.2.1.newPtr j HV.out) hR.out.1).mono ?_
        rintro e w1 ⟨rfl, hb1, sv1, cv1, hM1⟩
        have HI : Hid (InnerR G N n j (s.enter j) sv1 cv1 w1) := ⟨hM1, enter_root hR.out.2.1 hR.out.2.2.1 HV.out (by omega), fun v hv => by
          by_cases e : v = j
          · subst e; exact vis_enter_self
          · exact vis_enter v (hR.out.2.2.2 v (by omega))⟩
        have hb2 : Below N w w1 := hbel.trans hb1
        have HNG : Hid (n = G.n) := hnG
        clear hM1 hb1 c1 v0 q0 hnG hR HV
        go_wp2
        go_loopg [11] ((s.enter j).todo G) (fun k cs wr => ∃ (s : TS) (sv cv : Value), s.todo G = k ∧ cs = .int .i64 (s.comps : Nat) ∧ Hid (InnerR G N n j s sv cv wr) ∧ Below N w wr)
        case atStart => exact ⟨s.enter j, sv1, cv1, rfl, rfl, HI, hb2⟩
        case round =>
          clear HI hb2 sv1 cv1 w1
          obtain ⟨s, sv, cv, rfl, rfl, hR, hbel⟩ := hrel
          rcases list_last s.gray with hg | ⟨gs, i, hg⟩
          · have hr := hR.out.1.calR
            rw [hg] at hr
            obtain ⟨xa, xc, hx⟩ := owns_slice hr
            have c8 := cell_of_one hR.out.1.calB
            rw [hx] at c8
            have HG0 : Hid (s.gray = []) := hg
            clear hr hx hg
            go_wp2
            go_roundg (n - (j + 1))
            case measure => omega
            case rel => go_light; exact ⟨j + 1, s, sv, cv, by omega, rfl, by go_num, rfl, ⟨hR.out.1, hR.out.2.1, HG0.out, hR.out.2.2⟩, hbel⟩
          · obtain ⟨g, cap, hcv, hgN, hcap, hcm, t0, t1, t2⟩ := hR.out.1.top hg
            obtain ⟨hiG, hni, hoi, hgl, hvi⟩ := top_facts hR.out hg
            have c8 := cell_of_one hR.out.1.calB
            rw [hcv] at c8
            have hin := hiG
            rw [← HNG.out] at hin
            obtain ⟨b, o, x, cx, ea, hbl, hcx, hrx⟩ := (show InMem wr a G from HG.out.1.below (by rw [← HNN.out]; exact hbel)) i hiG
            subst ea
            have hdg := HG.out.2.deg i hiG
            have HF : Hid (s.gray = gs ++ [i] ∧ cv = .slice (some ⟨g, 0, none⟩) (gs.length + 1) cap ∧ i < G.n ∧ i ∉ gs ∧ s.onS i = true ∧ Row .i64 wr x (G.deg i) (fun k => ((G.adj i k : Nat) : Int))) := ⟨hg, hcv, hiG, hni, hoi, hrx⟩
            have hpd := hR.out.2.1.ptrLe i
            clear hg hcv hiG hni hoi hrx
            unfold maxLen at hcm
            by_cases hd : s.ptr i < G.deg i
            · obtain ⟨b2, o2, ex, _, hcj⟩ := HF.out.2.2.2.2.2 (s.ptr i) hd
              subst ex
              have hinI : (i : Int) < (n : Int) := by omega
              have hdI : ((s.ptr i : Nat) : Int) < ((G.deg i : Nat) : Int) := by omega
              go_upto_region 18 with fail
              go_quiet (fail)
              go_upto_region 19 with fail
              go_quiet (fail)
              go_upto_region 21 with fail
              generalize hw2 : World.setCell _ _ _ = w2
              have hM2 : Mem N n (s.bump i) sv cv w2 := by
                rw [← hw2]
                exact (hR.out.1.drewN _).setPtr HF.out.1 HF.out.2.2.2.1 HF.out.2.1 (s.ptr i + 1)
              have hb2 : Below N w w2 := by rw [← hw2]; exact (below_drewN hbel _).setCell (by show N ≤ g; omega) _
              clear hw2 t0 t1 t2 c8 hcx hcj hbel
              have hjG : G.adj i (s.ptr i) < G.n := HG.out.2.ok i HF.out.2.2.1 _ hd
              have HS : Hid (Inv G s ∧ (∀ v, v < j + 1 → s.vis v ≠ 0)) := hR.out.2
              have HM2 : Hid (Mem N n (s.bump i) sv cv w2) := hM2
              clear hM2 hR
              obtain ⟨jj, hjj⟩ : ∃ jj, jj = G.adj i (s.ptr i) := ⟨_, rfl⟩
              rw [← hjj] at hjG ⊢
              have HJ : Hid (jj = G.adj i (s.ptr i)) := hjj
              clear hjj
              have hjn : jj < n := by rw [HNG.out]; exact hjG
              have c1 := cell_of_one HM2.out.visB
              have v0 := HM2.out.visR.cell hjn
              have ev : (s.bump i).vis = s.vis := rfl
              rw [ev] at v0
              clear ev
              by_cases hv : s.vis jj = 0
              · have q0 : (((s.vis jj : Nat) : Int) == 0) = true := by rw [hv]; rfl
                have HV : Hid (s.vis jj = 0) := hv
                clear hv
                go_wp2_with fail
                refine (enter_any N n (s.bump i) sv cv w2 jj hn hjn (by rw [HNG.out]; show s.cnt < G.n; exact cnt_lt_n HS.out.1 hjG HV.out) (by have h1 := HS.out.1.compsLe; have h2 := cnt_le_n HS.out.1; rw [HNG.out]; show s.stack.length ≤ G.n; omega) (by have h1 := HS.out.1.grayLen; have h2 := cnt_le_n HS.out.1; rw [HNG.out]; show s.gray.length ≤ G.n; omega)
                  (by show upd s.ptr i (s.ptr i + 1) jj = 0; rw [upd_ne _ _ (fun e => by subst e; exact hvi HV.out)]; exact HS.out.1.newPtr jj HV.out) HM2.out).mono ?_
                rintro e w3 ⟨rfl, hb3, sv3, cv3, hM3⟩
                have HI3 : Hid (InnerR G N n j ((s.bump i).enter jj) sv3 cv3 w3) := ⟨hM3, by rw [HJ.out]; exact step_enter HS.out.1 HG.out.2.ok HF.out.1 HF.out.2.2.1 HF.out.2.2.2.2.1 hd (by rw [← HJ.out]; exact HV.out), fun v hv => vis_enter v (HS.out.2 v hv)⟩
                have hb4 : Below N w w3 := hb2.trans hb3
                have HT : Hid (((s.bump i).enter jj).todo G < s.todo G) := by
                  have h1 := todo_bump HS.out.1 HF.out.2.2.1 hd
                  have h2 := todo_enter (s := s.bump i) (G := G) (j := jj) (show s.cnt < G.n from cnt_lt_n HS.out.1 hjG HV.out)
                  show _ < _
                  omega
                clear hM3 hb3 c1 v0 q0
                go_wp2
                go_roundg (((s.bump i).enter jj).todo G)
                case measure => exact HT.out
                case rel => go_light; exact ⟨_, sv3, cv3, rfl, rfl, HI3, hb4⟩
              · have q0 : (((s.vis jj : Nat) : Int) == 0) = false := by rw [beq_eq_false_iff_ne]; omega
                have HV : Hid (s.vis jj ≠ 0) := hv
                clear hv
                have c6 := cell_of_one HM2.out.onSB
                have o0 := HM2.out.onSR.cell hjn
                have eo : (s.bump i).onS = s.onS := rfl
                rw [eo] at o0
                clear eo
                cases ho : s.onS jj with
                | true =>
                  rw [ho] at o0
                  have HO : Hid (s.onS jj = true) := ho
                  clear ho
                  have c3 := cell_of_one HM2.out.lowB
                  have l0 := HM2.out.lowR.cell hin
                  have l1 := HM2.out.lowR.frozen i
                  have el : (s.bump i).low = s.low := rfl
                  rw [el] at l0
                  clear el
                  have hinI : (i : Int) < (n : Int) := by omega
                  have hjI : (jj : Int) < (n : Int) := by omega
                  go_wp2
                  go_region
                  generalize hw3 : World.drew _ = w3
                  have hM3 : Mem N n ((s.lower i (s.vis jj)).bump i) sv cv w3 := by
                    rw [← hw3, min_int]
                    exact (HM2.out.setLow i (min (s.low i) (s.vis jj))).drew
                  have hb3 : Below N w w3 := by rw [← hw3]; exact (hb2.setCell (by show N ≤ N + 2; omega) _).drew
                  have HI3 : Hid (InnerR G N n j ((s.lower i (s.vis jj)).bump i) sv cv w3) := ⟨hM3, by rw [HJ.out]; exact step_low HS.out.1 HF.out.1 hd (by rw [← HJ.out]; exact HO.out), HS.out.2⟩
                  have HT : Hid (((s.lower i (s.vis jj)).bump i).todo G < s.todo G) := by
                    have h1 := todo_bump HS.out.1 HF.out.2.2.1 hd
                    have h2 : ((s.lower i (s.vis jj)).bump i).todo G = (s.bump i).todo G := rfl
                    show _ < _
                    omega
                  clear hM3 hw3 c1 v0 q0 c6 o0 c3 l0 l1
                  generalize (if s.vis jj < s.low i then ((s.vis jj : Nat) : Int) else ((s.low i : Nat) : Int)) = lv
                  go_wp2
                  go_roundg (((s.lower i (s.vis jj)).bump i).todo G)
                  case measure => exact HT.out
                  case rel => go_light; exact ⟨_, sv, cv, rfl, rfl, HI3, hb3⟩
                | false =>
                  rw [ho] at o0
                  have HI3 : Hid (InnerR G N n j (s.bump i) sv cv w2) := ⟨HM2.out, step_skip HS.out.1 HF.out.1 hd (by rw [← HJ.out]; exact HV.out) (by rw [← HJ.out]; exact ho), HS.out.2⟩
                  have HT : Hid ((s.bump i).todo G < s.todo G) := by
                    have h1 := todo_bump HS.out.1 HF.out.2.2.1 hd
                    show _ < _
                    omega
                  clear ho
                  go_wp2
                  go_roundg ((s.bump i).todo G)
                  case measure => exact HT.out
                  case rel => go_light; exact ⟨_, sv, cv, rfl, rfl, HI3, hb2⟩
            · have hdI : ¬ ((s.ptr i : Nat) : Int) < ((G.deg i : Nat) : Int) := by omega
              have hinI : (i : Int) < (n : Int) := by omega
              have f8 := free_of_one hR.out.1.calB
              go_upto_region 18 with fail
              go_quiet (fail)
              go_upto_region 26 with fail
              generalize hw2 : World.setCell _ _ _ = w2
              obtain ⟨cvx, hcvx⟩ : ∃ cvx, cvx = Value.slice (some ⟨g, 0, none⟩) gs.length cap := ⟨_, rfl⟩
              have hM2 : Mem N n (s.pop gs) sv cvx w2 := by
                rw [← hw2, hcvx]
                exact (hR.out.1.drewN _).popCal HF.out.1 HF.out.2.1
              have hb2 : Below N w w2 := by rw [← hw2]; exact (below_drewN hbel _).setCell (by show N ≤ N + 8; omega) _
              have hpe : s.ptr i = G.deg i := by omega
              have HPX : Hid (s.ptr i = G.deg i) := hpe
              have HS : Hid (Inv G s) := hR.out.2.1
              have HVS : Hid (∀ v, v < j + 1 → s.vis v ≠ 0) := hR.out.2.2
              have HM2 : Hid (Mem N n (s.pop gs) sv cvx w2) := hM2
              have HCV : Hid (cvx = Value.slice (some ⟨g, 0, none⟩) gs.length cap) := hcvx
              have HGX : Hid (s.gray = gs ++ [i]) := HF.out.1
              have c8' := cell_of_one hM2.calB
              rw [hcvx] at c8'
              clear hw2 t0 t1 t2 c8 f8 hcx hbel hR hM2 hpe hcvx hd hdI
              rcases list_last gs with hgs | ⟨gt, cc, hgs⟩
              · have hl0 : gs.length = 0 := by rw [hgs]; rfl
                have HX0 : Hid (gs = []) := hgs
                clear hgs
                go_upto_region 29 with fail
                have wx := w2
                obtain ⟨wx, hwx⟩ : ∃ wx, wx = w2 := ⟨_, rfl⟩
                rw [← hwx] at HM2 hb2 ⊢
                clear hwx
                have HMx := HM2
                have HIx := HS
                have hbx := hb2
                clear HM2 hb2 c8' w2 hl0
                have c1 := cell_of_one HMx.out.visB
                have c3 := cell_of_one HMx.out.lowB
                have v0 : wx.cell? ⟨N, i, none⟩ = some (.int .i64 ((s.vis i : Nat) : Int)) := HMx.out.visR.cell hin
                have l0 : wx.cell? ⟨N + 2, i, none⟩ = some (.int .i64 (((s).low i : Nat) : Int)) := HMx.out.lowR.cell hin
                obtain ⟨lv, hlv⟩ : ∃ lv, lv = (s).low i := ⟨_, rfl⟩
                rw [← hlv] at l0
                have HLV : Hid (lv = (s).low i) := hlv
                clear hlv
                by_cases hq : lv = s.vis i
                · have q1 : (((lv : Nat) : Int) == ((s.vis i : Nat) : Int)) = true := by rw [hq]; simp
                  have HQ : Hid ((s).low i = s.vis i) := by rw [← HLV.out]; exact hq
                  clear hq
                  obtain ⟨pre, post, hst⟩ := List.append_of_mem ((HIx.out.stackMem i).2 (HIx.out.grayMem i (by show i ∈ s.gray; rw [HGX.out]; simp)))
                  have HST : Hid ((s).stack = pre ++ i :: post) := hst
                  clear hst
                  go_quiet (fail)
                  generalize hwy : World.drewN _ _ = wy
                  have HMy : Hid (Mem N n ((s).part gs (pre ++ i :: post) []) sv cvx wy) := by
                    rw [← hwy, ← HST.out]
                    exact HMx.out.started.drewN _
                  have hby : Below N w wy := by rw [← hwy]; exact below_drewN hbx _
                  clear hwy c1 c3 v0 l0 hbx HMx
                  go_wp2
                  go_loopg [] (post.length + 1) (fun k wr => ∃ (p1 p2 : List Nat) (sv' : Value), p1.length + 1 = k ∧ Hid (post = p1 ++ p2 ∧ Mem N n ((s).part gs (pre ++ i :: p1) p2) sv' cvx wr) ∧ Below N w wr)
                  case atStart => exact ⟨post, [], sv, rfl, ⟨by simp, HMy.out⟩, hby⟩
                  case round =>
                    clear HMy hby
                    obtain ⟨p1, p2, sv', rfl, hP, hbel⟩ := hrel
                    rcases list_last p1 with hp | ⟨p, x, hp⟩
                    · -- the last one is i itself
                      subst hp
                      have hM := hP.out.2
                      obtain ⟨g7, cap7, hsv, hc7, hc7m, t7⟩ := hM.topS (pre := pre) (i := i) rfl
                      unfold maxLen at hc7m
                      have c7 := cell_of_one hM.stkB
                      have f7 := free_of_one hM.stkB
                      rw [hsv] at c7
                      have hM' := hM.taken (st := pre) hsv
                      have c6 := cell_of_one hM.onSB
                      have o0 := hM.onSR.cell hin
                      have o1 := hM.onSR.frozen i
                      have m0 := hM.compR.cell hin
                      have m1 := hM.compR.frozen i
                      obtain ⟨ob, hob⟩ : ∃ ob, ob = ((s).part gs (pre ++ i :: []) p2).onS i := ⟨_, rfl⟩
                      obtain ⟨mb, hmb⟩ : ∃ mb, mb = ((s).part gs (pre ++ i :: []) p2).comp i := ⟨_, rfl⟩
                      rw [← hob] at o0
                      rw [← hmb] at m0
                      clear hob hmb
                      have hpl : pre.length < 65536 := by
                        have h1 := HIx.out.compsLe
                        have h2 := cnt_le_n HIx.out
                        rw [HST.out] at h1
                        have h3 := HNG.out
                        simp at h1
                        omega
                      have hcI : 0 ≤ ((s.comps : Nat) : Int) ∧ ((s.comps : Nat) : Int) ≤ 65536 := by
                        have h1 := HIx.out.compsLe
                        have h2 := cnt_le_n HIx.out
                        have h3 := HNG.out
                        have h4 : (s).comps = s.comps := rfl
                        omega
                      have HM7 := (show Hid _ from hM'.closed)
                      have HX7 : Hid (i :: p2 = i :: post) := by rw [hP.out.1]; rfl
                      have hb7 := ((hbel.setCell (p := ⟨N + 7, 0, none⟩) (by show N ≤ N + 7; omega) (.slice (some ⟨g7, 0, none⟩) pre.length cap7)).setCell (p := ⟨N + 5, i, none⟩) (by show N ≤ N + 5; omega) (.bool false)).setCell (p := ⟨N + 4, i, none⟩) (by show N ≤ N + 4; omega) (.int .i64 ((s.comps : Nat) : Int))
                      have hii : ((i : Int) == (i : Int)) = true := by simp
                      have hinI : (i : Int) < (n : Int) := by omega
                      clear hM hM' hsv hP
                      go_wp2
                      go_roundg (((s).close gs pre (i :: post)).todo G)
                      case measure =>
                        have h1 : ((s).close gs pre (i :: post)).todo G + 1 = s.todo G := by
                          have e1 : ((s).close gs pre (i :: post)).todo G = 2 * (G.n - s.cnt) + (sumTo G.deg G.n - sumTo s.ptr G.n) + gs.length := rfl
                          have e2 : s.todo G = 2 * (G.n - s.cnt) + (sumTo G.deg G.n - sumTo s.ptr G.n) + (gs ++ [i]).length := by rw [← HF.out.1]; rfl
                          rw [e1, e2]; simp; omega
                        omega
                      case rel =>
                        go_light
                        refine ⟨(s).close gs pre (i :: post), (.slice (some ⟨g7, 0, none⟩) pre.length cap7), cvx, rfl, by show Value.int .i64 _ = Value.int .i64 (((s.comps + 1 : Nat)) : Int); go_num, ⟨?_, ?_, HVS.out⟩, hb7⟩
                        · rw [← HX7.out]; exact HM7.out
                        · exact inv_close HIx.out HGX.out HPX.out HQ.out HST.out
                    · -- another one
                      subst hp
                      have hM := hP.out.2
                      have he : pre ++ i :: (p ++ [x]) = (pre ++ i :: p) ++ [x] := by simp
                      rw [he] at hM
                      obtain ⟨g7, cap7, hsv, hc7, hc7m, t7⟩ := hM.topS (pre := pre ++ i :: p) (i := x) rfl
                      unfold maxLen at hc7m
                      have hxs : x ∈ (s).stack := by rw [HST.out, hP.out.1]; simp
                      have hxo := (HIx.out.stackMem x).1 hxs
                      have hxG := HIx.out.visLt x (HIx.out.onSVis x hxo)
                      have hxn : x < n := by rw [HNG.out]; exact hxG
                      have hxi : x ≠ i := by
                        have hso := HIx.out.stackSorted
                        rw [HST.out, hP.out.1, List.pairwise_append] at hso
                        have := (List.pairwise_cons.1 hso.2.1).1 x (by simp)
                        intro e
                        rw [e] at this
                        omega
                      have c7 := cell_of_one hM.stkB
                      have f7 := free_of_one hM.stkB
                      rw [hsv] at c7
                      have hM' := hM.taken (st := pre ++ i :: p) hsv
                      have c6 := cell_of_one hM.onSB
                      have o0 := hM.onSR.cell hxn
                      have o1 := hM.onSR.frozen x
                      have m0 := hM.compR.cell hxn
                      have m1 := hM.compR.frozen x
                      obtain ⟨ob, hob⟩ : ∃ ob, ob = ((s).part gs (pre ++ i :: p ++ [x]) p2).onS x := ⟨_, rfl⟩
                      obtain ⟨mb, hmb⟩ : ∃ mb, mb = ((s).part gs (pre ++ i :: p ++ [x]) p2).comp x := ⟨_, rfl⟩
                      rw [← hob] at o0
                      rw [← hmb] at m0
                      clear hob hmb
                      obtain ⟨L, hL⟩ : ∃ L, L = pre ++ i :: p := ⟨_, rfl⟩
                      rw [← hL] at hM' hsv hc7 t7 c7
                      have hpl : L.length < 65536 := by
                        have h1 := HIx.out.compsLe
                        have h2 := cnt_le_n HIx.out
                        rw [HST.out, hP.out.1] at h1
                        have h3 := HNG.out
                        rw [hL]
                        simp at h1 ⊢
                        omega
                      have HM7 := (show Hid _ from hM')
                      have HX7 : Hid (post = p ++ (x :: p2) ∧ L = pre ++ i :: p) := ⟨by rw [hP.out.1]; simp, hL⟩
                      have hb7 := ((hbel.setCell (p := ⟨N + 7, 0, none⟩) (by show N ≤ N + 7; omega) (.slice (some ⟨g7, 0, none⟩) L.length cap7)).setCell (p := ⟨N + 5, x, none⟩) (by show N ≤ N + 5; omega) (.bool false)).setCell (p := ⟨N + 4, x, none⟩) (by show N ≤ N + 4; omega) (.int .i64 ((s.comps : Nat) : Int))
                      have hii : ((x : Int) == (i : Int)) = false := by rw [beq_eq_false_iff_ne]; omega
                      have hinI : (x : Int) < (n : Int) := by omega
                      clear hM hM' hsv hP hL he hxs hxo hxi
                      go_wp2
                      go_roundg (p.length + 1)
                      case measure => simp
                      case rel =>
                        go_light
                        refine ⟨p, x :: p2, (.slice (some ⟨g7, 0, none⟩) L.length cap7), rfl, ⟨HX7.out.1, ?_⟩, hb7⟩
                        rw [← HX7.out.2]
                        exact HM7.out
                · have q1 : (((lv : Nat) : Int) == ((s.vis i : Nat) : Int)) = false := by rw [beq_eq_false_iff_ne]; omega
                  have HQ : Hid (¬ (s).low i = s.vis i) := by rw [← HLV.out]; exact hq
                  clear hq
                  have hlr : s.low i = s.vis i := low_root HS.out (by rw [HGX.out, HX0.out, List.nil_append])
                  exact (HQ.out hlr).elim
              · obtain ⟨g', cap', hcv', hg'N, hcap', hcm', t0, t1, t2⟩ := HM2.out.top (gs := gt) (i := cc) hgs
                unfold maxLen at hcm'
                have c8'' := cell_of_one HM2.out.calB
                rw [hcv'] at c8''
                clear c8'
                have HGT : Hid (s.gray = gt ++ [cc] ++ [i] ∧ gs = gt ++ [cc]) := ⟨by rw [← hgs]; exact HGX.out, hgs⟩
                obtain ⟨HS1, hcG, hci, hlc⟩ := step_caller HS.out HGT.out.1
                have hcn : cc < n := by rw [HNG.out]; exact hcG
                have hgtl : gt.length < 65536 := by
                  have h1 := HS.out.grayLen
                  have h2 := cnt_le_n HS.out
                  have h3 := HNG.out
                  rw [HGT.out.1] at h1
                  simp at h1
                  omega
                have c3 := cell_of_one HM2.out.lowB
                have lc0 : w2.cell? ⟨N + 2, cc, none⟩ = some (.int .i64 ((s.low cc : Nat) : Int)) := HM2.out.lowR.cell hcn
                have lc1 := HM2.out.lowR.frozen cc
                have li0 : w2.cell? ⟨N + 2, i, none⟩ = some (.int .i64 ((s.low i : Nat) : Int)) := HM2.out.lowR.cell hin
                have hcI : (cc : Int) < (n : Int) := by omega
                have HX1 : Hid (Inv G (s.lower cc (s.low i)) ∧ (s.lower cc (s.low i)).low cc ≤ (s.lower cc (s.low i)).low i) := ⟨HS1, hlc⟩
                clear HS1 hlc hgs hci hcv'
                go_upto_region 28 with fail
                go_region
                generalize hwx : World.drew _ = wx
                have HMx : Hid (Mem N n ((s.lower cc (s.low i)).pop gs) sv cvx wx) := by
                  rw [← hwx, min_int]
                  exact (HM2.out.setLow cc (min (s.low cc) (s.low i))).drew
                have HIx : Hid (Inv G (s.lower cc (s.low i))) := HX1.out.1
                have hbx : Below N w wx := by rw [← hwx]; exact (hb2.setCell (by show N ≤ N + 2; omega) _).drew
                generalize (if s.low i < s.low cc then ((s.low i : Nat) : Int) else ((s.low cc : Nat) : Int)) = lvv
                clear hwx HM2 hb2 c8'' t0 t1 t2 c3 lc0 lc1 li0 hcap' hcm'
                have c1 := cell_of_one HMx.out.visB
                have c3 := cell_of_one HMx.out.lowB
                have v0 : wx.cell? ⟨N, i, none⟩ = some (.int .i64 ((s.vis i : Nat) : Int)) := HMx.out.visR.cell hin
                have l0 : wx.cell? ⟨N + 2, i, none⟩ = some (.int .i64 (((s.lower cc (s.low i)).low i : Nat) : Int)) := HMx.out.lowR.cell hin
                obtain ⟨lv, hlv⟩ : ∃ lv, lv = (s.lower cc (s.low i)).low i := ⟨_, rfl⟩
                rw [← hlv] at l0
                have HLV : Hid (lv = (s.lower cc (s.low i)).low i) := hlv
                clear hlv
                by_cases hq : lv = s.vis i
                · have q1 : (((lv : Nat) : Int) == ((s.vis i : Nat) : Int)) = true := by rw [hq]; simp
                  have HQ : Hid ((s.lower cc (s.low i)).low i = s.vis i) := by rw [← HLV.out]; exact hq
                  clear hq
                  obtain ⟨pre, post, hst⟩ := List.append_of_mem ((HIx.out.stackMem i).2 (HIx.out.grayMem i (by show i ∈ s.gray; rw [HGX.out]; simp)))
                  have HST : Hid ((s.lower cc (s.low i)).stack = pre ++ i :: post) := hst
                  clear hst
                  go_upto_region 29 with fail
                  go_quiet (fail)
                  generalize hwy : World.drewN _ _ = wy
                  have HMy : Hid (Mem N n ((s.lower cc (s.low i)).part gs (pre ++ i :: post) []) sv cvx wy) := by
                    rw [← hwy, ← HST.out]
                    exact HMx.out.started.drewN _
                  have hby : Below N w wy := by rw [← hwy]; exact below_drewN hbx _
                  clear hwy c1 c3 v0 l0 hbx HMx
                  go_wp2
                  go_loopg [] (post.length + 1) (fun k wr => ∃ (p1 p2 : List Nat) (sv' : Value), p1.length + 1 = k ∧ Hid (post = p1 ++ p2 ∧ Mem N n ((s.lower cc (s.low i)).part gs (pre ++ i :: p1) p2) sv' cvx wr) ∧ Below N w wr)
                  case atStart => exact ⟨post, [], sv, rfl, ⟨by simp, HMy.out⟩, hby⟩
                  case round =>
                    clear HMy hby
                    obtain ⟨p1, p2, sv', rfl, hP, hbel⟩ := hrel
                    rcases list_last p1 with hp | ⟨p, x, hp⟩
                    · -- the last one is i itself
                      subst hp
                      have hM := hP.out.2
                      obtain ⟨g7, cap7, hsv, hc7, hc7m, t7⟩ := hM.topS (pre := pre) (i := i) rfl
                      unfold maxLen at hc7m
                      have c7 := cell_of_one hM.stkB
                      have f7 := free_of_one hM.stkB
                      rw [hsv] at c7
                      have hM' := hM.taken (st := pre) hsv
                      have c6 := cell_of_one hM.onSB
                      have o0 := hM.onSR.cell hin
                      have o1 := hM.onSR.frozen i
                      have m0 := hM.compR.cell hin
                      have m1 := hM.compR.frozen i
                      obtain ⟨ob, hob⟩ : ∃ ob, ob = ((s.lower cc (s.low i)).part gs (pre ++ i :: []) p2).onS i := ⟨_, rfl⟩
                      obtain ⟨mb, hmb⟩ : ∃ mb, mb = ((s.lower cc (s.low i)).part gs (pre ++ i :: []) p2).comp i := ⟨_, rfl⟩
                      rw [← hob] at o0
                      rw [← hmb] at m0
                      clear hob hmb
                      have hpl : pre.length < 65536 := by
                        have h1 := HIx.out.compsLe
                        have h2 := cnt_le_n HIx.out
                        rw [HST.out] at h1
                        have h3 := HNG.out
                        simp at h1
                        omega
                      have hcI : 0 ≤ ((s.comps : Nat) : Int) ∧ ((s.comps : Nat) : Int) ≤ 65536 := by
                        have h1 := HIx.out.compsLe
                        have h2 := cnt_le_n HIx.out
                        have h3 := HNG.out
                        have h4 : (s.lower cc (s.low i)).comps = s.comps := rfl
                        omega
                      have HM7 := (show Hid _ from hM'.closed)
                      have HX7 : Hid (i :: p2 = i :: post) := by rw [hP.out.1]; rfl
                      have hb7 := ((hbel.setCell (p := ⟨N + 7, 0, none⟩) (by show N ≤ N + 7; omega) (.slice (some ⟨g7, 0, none⟩) pre.length cap7)).setCell (p := ⟨N + 5, i, none⟩) (by show N ≤ N + 5; omega) (.bool false)).setCell (p := ⟨N + 4, i, none⟩) (by show N ≤ N + 4; omega) (.int .i64 ((s.comps : Nat) : Int))
                      have hii : ((i : Int) == (i : Int)) = true := by simp
                      have hinI : (i : Int) < (n : Int) := by omega
                      clear hM hM' hsv hP
                      go_wp2
                      go_roundg (((s.lower cc (s.low i)).close gs pre (i :: post)).todo G)
                      case measure =>
                        have h1 : ((s.lower cc (s.low i)).close gs pre (i :: post)).todo G + 1 = s.todo G := by
                          have e1 : ((s.lower cc (s.low i)).close gs pre (i :: post)).todo G = 2 * (G.n - s.cnt) + (sumTo G.deg G.n - sumTo s.ptr G.n) + gs.length := rfl
                          have e2 : s.todo G = 2 * (G.n - s.cnt) + (sumTo G.deg G.n - sumTo s.ptr G.n) + (gs ++ [i]).length := by rw [← HF.out.1]; rfl
                          rw [e1, e2]; simp; omega
                        omega
                      case rel =>
                        go_light
                        refine ⟨(s.lower cc (s.low i)).close gs pre (i :: post), (.slice (some ⟨g7, 0, none⟩) pre.length cap7), cvx, rfl, by show Value.int .i64 _ = Value.int .i64 (((s.comps + 1 : Nat)) : Int); go_num, ⟨?_, ?_, HVS.out⟩, hb7⟩
                        · rw [← HX7.out]; exact HM7.out
                        · exact inv_close HIx.out HGX.out HPX.out HQ.out HST.out
                    · -- another one
                      subst hp
                      have hM := hP.out.2
                      have he : pre ++ i :: (p ++ [x]) = (pre ++ i :: p) ++ [x] := by simp
                      rw [he] at hM
                      obtain ⟨g7, cap7, hsv, hc7, hc7m, t7⟩ := hM.topS (pre := pre ++ i :: p) (i := x) rfl
                      unfold maxLen at hc7m
                      have hxs : x ∈ (s.lower cc (s.low i)).stack := by rw [HST.out, hP.out.1]; simp
                      have hxo := (HIx.out.stackMem x).1 hxs
                      have hxG := HIx.out.visLt x (HIx.out.onSVis x hxo)
                      have hxn : x < n := by rw [HNG.out]; exact hxG
                      have hxi : x ≠ i := by
                        have hso := HIx.out.stackSorted
                        rw [HST.out, hP.out.1, List.pairwise_append] at hso
                        have := (List.pairwise_cons.1 hso.2.1).1 x (by simp)
                        intro e
                        rw [e] at this
                        omega
                      have c7 := cell_of_one hM.stkB
                      have f7 := free_of_one hM.stkB
                      rw [hsv] at c7
                      have hM' := hM.taken (st := pre ++ i :: p) hsv
                      have c6 := cell_of_one hM.onSB
                      have o0 := hM.onSR.cell hxn
                      have o1 := hM.onSR.frozen x
                      have m0 := hM.compR.cell hxn
                      have m1 := hM.compR.frozen x
                      obtain ⟨ob, hob⟩ : ∃ ob, ob = ((s.lower cc (s.low i)).part gs (pre ++ i :: p ++ [x]) p2).onS x := ⟨_, rfl⟩
                      obtain ⟨mb, hmb⟩ : ∃ mb, mb = ((s.lower cc (s.low i)).part gs (pre ++ i :: p ++ [x]) p2).comp x := ⟨_, rfl⟩
                      rw [← hob] at o0
                      rw [← hmb] at m0
                      clear hob hmb
                      obtain ⟨L, hL⟩ : ∃ L, L = pre ++ i :: p := ⟨_, rfl⟩
                      rw [← hL] at hM' hsv hc7 t7 c7
                      have hpl : L.length < 65536 := by
                        have h1 := HIx.out.compsLe
                        have h2 := cnt_le_n HIx.out
                        rw [HST.out, hP.out.1] at h1
                        have h3 := HNG.out
                        rw [hL]
                        simp at h1 ⊢
                        omega
                      have HM7 := (show Hid _ from hM')
                      have HX7 : Hid (post = p ++ (x :: p2) ∧ L = pre ++ i :: p) := ⟨by rw [hP.out.1]; simp, hL⟩
                      have hb7 := ((hbel.setCell (p := ⟨N + 7, 0, none⟩) (by show N ≤ N + 7; omega) (.slice (some ⟨g7, 0, none⟩) L.length cap7)).setCell (p := ⟨N + 5, x, none⟩) (by show N ≤ N + 5; omega) (.bool false)).setCell (p := ⟨N + 4, x, none⟩) (by show N ≤ N + 4; omega) (.int .i64 ((s.comps : Nat) : Int))
                      have hii : ((x : Int) == (i : Int)) = false := by rw [beq_eq_false_iff_ne]; omega
                      have hinI : (x : Int) < (n : Int) := by omega
                      clear hM hM' hsv hP hL he hxs hxo hxi
                      go_wp2
                      go_roundg (p.length + 1)
                      case measure => simp
                      case rel =>
                        go_light
                        refine ⟨p, x :: p2, (.slice (some ⟨g7, 0, none⟩) L.length cap7), rfl, ⟨HX7.out.1, ?_⟩, hb7⟩
                        rw [← HX7.out.2]
                        exact HM7.out
                · have q1 : (((lv : Nat) : Int) == ((s.vis i : Nat) : Int)) = false := by rw [beq_eq_false_iff_ne]; omega
                  have HQ : Hid (¬ (s.lower cc (s.low i)).low i = s.vis i) := by rw [← HLV.out]; exact hq
                  clear hq
                  go_upto_region 29 with fail
                  go_quiet (fail)
                  generalize hwy : World.drewN _ _ = wy
                  have HMy : Hid (Mem N n ((s.lower cc (s.low i)).pop gs) sv cvx wy) := by
                    rw [← hwy]
                    exact HMx.out.drewN _
                  have hby : Below N w wy := by rw [← hwy]; exact below_drewN hbx _
                  clear hwy c1 c3 v0 l0 hbx HMx
                  go_wp2
                  go_roundg (((s.lower cc (s.low i)).pop gs).todo G)
                  case measure =>
                    have h1 : ((s.lower cc (s.low i)).pop gs).todo G + 1 = s.todo G := by
                      have e1 : ((s.lower cc (s.low i)).pop gs).todo G = 2 * (G.n - s.cnt) + (sumTo G.deg G.n - sumTo s.ptr G.n) + gs.length := rfl
                      have e2 : s.todo G = 2 * (G.n - s.cnt) + (sumTo G.deg G.n - sumTo s.ptr G.n) + (gs ++ [i]).length := by rw [← HF.out.1]; rfl
                      rw [e1, e2]; simp; omega
                    omega
                  case rel =>
                    go_light
                    refine ⟨(s.lower cc (s.low i)).pop gs, sv, cvx, rfl, rfl, ⟨HMy.out, ?_, HVS.out⟩, hby⟩
                    have hle := HIx.out.lowLe i (HIx.out.grayMem i (by show i ∈ s.gray; rw [HGX.out]; simp))
                    have hne := HQ.out
                    rw [HGT.out.2]
                    exact inv_pop HIx.out HGT.out.1 HPX.out (Nat.lt_of_le_of_ne hle hne) HX1.out.2
      · have q0 : (((s.vis j : Nat) : Int) != 0) = true := by rw [bne_iff_ne]; omega
        have HV : Hid (s.vis j ≠ 0) := hv
        clear hv
        go_wp2
        go_roundg (n - (j + 1))
        case measure => omega
        case rel =>
          go_light
          exact ⟨j + 1, s, sv, cv, by omega, rfl, by go_num, rfl, ⟨hR.out.1, hR.out.2.1, hR.out.2.2.1, fun v hv => by
            by_cases e : v = j
            · subst e; exact HV.out
            · exact hR.out.2.2.2 v (by omega)⟩, hbel⟩
    · go_wp2
      go_ret
      have e := HN.out
      exact ⟨s.comp, N + 4, by rw [← e]; rfl, inv_final hR.out.2.1 hR.out.2.2.1 (fun v hv => hR.out.2.2.2 v (by omega)), by rw [← e]; exact Row.of_rowIs hR.out.1.compR, by rw [← HNN.out]; exact hbel⟩

end Go.Proofs.Qxb6601860a
