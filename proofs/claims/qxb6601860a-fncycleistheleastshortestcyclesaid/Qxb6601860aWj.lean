import Derived.Test.Qxb6601860aSa
import Derived.Test.Qxb6601860aWi
namespace Go.Proofs.Qxb6601860a
open Go.RowKit
set_option linter.unusedVariables false

/-- A row whose number at x is ds x less one, and a list of one's own behind it. -/
structure QM (n : Nat) (w3 : World) (ds : Nat → Nat) (v : Value) (Q : List Nat) (wr : World) : Prop where
  row : wr.rowIs w3.heap.size 3 n (fun x => .int .i64 (((ds x : Nat) : Int) - 1))
  own : wr.ownsRow (w3.heap.size + 1) 3 1 v Q.length (nums Q)
  bel : Below w3.heap.size w3 wr

theorem QM.set {n : Nat} {w3 : World} {ds : Nat → Nat} {v : Value} {Q : List Nat} {wr : World} (h : QM n w3 ds v Q wr) (x z : Nat) : QM n w3 (upd ds x z) v Q (wr.setCell ⟨w3.heap.size, x, none⟩ (.int .i64 (((z : Nat) : Int) - 1))) :=
  ⟨(h.row.set x _).congr (fun c hc => by
    show (if c = x then Value.int .i64 (((z : Nat) : Int) - 1) else _) = .int .i64 (((upd ds x z c : Nat) : Int) - 1)
    unfold upd; split <;> rfl), owns_of_block h.own (fun k hk => sc_other _ _ _ _ (by have := (h.own.lt k hk).1; omega)), h.bel.setCell (Nat.le_refl _) _⟩

theorem QM.push {n : Nat} {w3 : World} {ds : Nat → Nat} {v v' : Value} {Q : List Nat} {wr w' : World} {O : Obj} {y : Nat} (h : QM n w3 ds v Q wr) (ho : w'.ownsRow (w3.heap.size + 1) 3 1 v' (Q.length + 1) (nums Q ++ [.int .i64 (y : Nat)]))
    (hg : (wr.alloc O).grownBy w' v.ownBlock) : QM n w3 ds v' (Q ++ [y]) w' := by
  have hl := h.row.lt
  refine ⟨h.row.of_block ?_, by rw [nums_app, List.length_append]; exact ho, ?_⟩
  · rw [hg.block w3.heap.size (by simp; omega) (fun e => by have := (h.own.lt _ e.symm).1; omega)]
    exact Below.heap_alloc _ _ _ hl
  · exact (h.bel.alloc h.bel.size _).grown hg (by have := h.bel.size; simp; omega) (fun k hk => by have := (h.own.lt k hk).1; omega)

def SeqPost (G : Gr) (start : Nat) (w : World) (e : Ending) (w' : World) : Prop :=
  ∃ (P : List Nat) (g c : Nat), e = .returned (.slice (some ⟨g, 0, none⟩) (P.length + 1) c) ∧ Closed G start P ∧ (∀ P', Closed G start P' → SLE P P') ∧
    w'.ownsRow w.heap.size 3 1 (.slice (some ⟨g, 0, none⟩) (P.length + 1) c) (P.length + 1) (nums (start :: P)) ∧ P.length ≤ 65536 ∧ Below w.heap.size w w'

/-- A choice so far: none, or one. -/
def optI : Option Nat → Int
  | none => -1
  | some c => c

/-- The best first step among the first a arcs. -/
def BestTo (G : Gr) (start : Nat) (ds : Nat → Nat) (a : Nat) : Option Nat → Prop
  | none => ∀ k, k < a → ds (G.adj start k) = 0
  | some c => G.Edge start c ∧ ds c ≠ 0 ∧ ∀ k, k < a → ds (G.adj start k) ≠ 0 → ds c < ds (G.adj start k) ∨ (ds c = ds (G.adj start k) ∧ c ≤ G.adj start k)

/-- The least next step among the first a arcs of c. -/
def NextTo (G : Gr) (ds : Nat → Nat) (c a : Nat) : Option Nat → Prop
  | none => ∀ k, k < a → ds c ≠ ds (G.adj c k) + 1
  | some y => G.Edge c y ∧ ds c = ds y + 1 ∧ ∀ k, k < a → ds c = ds (G.adj c k) + 1 → y ≤ G.adj c k

section
variable {G : Gr} {start : Nat} {ds : Nat → Nat} {a c : Nat}
theorem BestTo.zero {o : Option Nat} (h : BestTo G start ds a o) (hz : ds (G.adj start a) = 0) : BestTo G start ds (a + 1) o := by
  cases o with
  | none =>
    intro k hk
    by_cases e : k = a
    · subst e; exact hz
    · exact h k (by omega)
  | some c =>
    refine ⟨h.1, h.2.1, fun k hk hne => ?_⟩
    by_cases e : k = a
    · subst e; exact absurd hz hne
    · exact h.2.2 k (by omega) hne
theorem BestTo.new (h : BestTo G start ds a none) (ha : a < G.deg start) (hz : ds (G.adj start a) ≠ 0) : BestTo G start ds (a + 1) (some (G.adj start a)) := by
  refine ⟨⟨a, ha, rfl⟩, hz, fun k hk hne => ?_⟩
  by_cases e : k = a
  · subst e; exact .inr ⟨rfl, Nat.le_refl _⟩
  · exact absurd (h k (by omega)) hne
theorem BestTo.better (h : BestTo G start ds a (some c)) (ha : a < G.deg start) (hz : ds (G.adj start a) ≠ 0) (hb : ds (G.adj start a) < ds c ∨ (ds (G.adj start a) = ds c ∧ G.adj start a < c)) : BestTo G start ds (a + 1) (some (G.adj start a)) := by
  refine ⟨⟨a, ha, rfl⟩, hz, fun k hk hne => ?_⟩
  by_cases e : k = a
  · subst e; exact .inr ⟨rfl, Nat.le_refl _⟩
  · have := h.2.2 k (by omega) hne; omega
theorem BestTo.keep (h : BestTo G start ds a (some c)) (hb : ds c < ds (G.adj start a) ∨ (ds c = ds (G.adj start a) ∧ c ≤ G.adj start a)) : BestTo G start ds (a + 1) (some c) := by
  refine ⟨h.1, h.2.1, fun k hk hne => ?_⟩
  by_cases e : k = a
  · subst e; exact hb
  · exact h.2.2 k (by omega) hne
theorem BestTo.ends (h : BestTo G start ds (G.deg start) (some c)) : Best G start ds c :=
  ⟨h.1, h.2.1, fun x ⟨k, hk, e⟩ hne => by subst e; exact h.2.2 k hk hne⟩
theorem BestTo.never (hG : G.Ok) (hs : start < G.n) (hD : Dist G start ds) (h : BestTo G start ds (G.deg start) none) (hm : Multi G start) : False := by
  obtain ⟨z, _, h1, h2, h3⟩ := hm
  obtain ⟨P, v, hp, hv⟩ := closed_of_two h1 h2 h3
  cases P with
  | nil =>
    have e : start = v := hp
    subst e
    obtain ⟨k, hk, e⟩ := hv
    have := h k hk
    rw [e, hD.st] at this
    omega
  | cons x l =>
    obtain ⟨k, hk, e⟩ := hp.1
    have hx : x < G.n := hp.1.lt hG hs
    have := (hD.path_le hG hx (path_snoc hp.2 hv)).1
    rw [← e] at this
    exact this (h k hk)

theorem NextTo.miss {o : Option Nat} (h : NextTo G ds c a o) (hz : ds c ≠ ds (G.adj c a) + 1) : NextTo G ds c (a + 1) o := by
  cases o with
  | none =>
    intro k hk
    by_cases e : k = a
    · subst e; exact hz
    · exact h k (by omega)
  | some y =>
    refine ⟨h.1, h.2.1, fun k hk hne => ?_⟩
    by_cases e : k = a
    · subst e; exact absurd hne hz
    · exact h.2.2 k (by omega) hne
theorem NextTo.new (h : NextTo G ds c a none) (ha : a < G.deg c) (hz : ds c = ds (G.adj c a) + 1) : NextTo G ds c (a + 1) (some (G.adj c a)) := by
  refine ⟨⟨a, ha, rfl⟩, hz, fun k hk hne => ?_⟩
  by_cases e : k = a
  · subst e; exact Nat.le_refl _
  · exact absurd hne (h k (by omega))
theorem NextTo.better {y : Nat} (h : NextTo G ds c a (some y)) (ha : a < G.deg c) (hz : ds c = ds (G.adj c a) + 1) (hb : G.adj c a < y) : NextTo G ds c (a + 1) (some (G.adj c a)) := by
  refine ⟨⟨a, ha, rfl⟩, hz, fun k hk hne => ?_⟩
  by_cases e : k = a
  · subst e; exact Nat.le_refl _
  · have := h.2.2 k (by omega) hne; omega
theorem NextTo.keep {y : Nat} (h : NextTo G ds c a (some y)) (hb : y ≤ G.adj c a) : NextTo G ds c (a + 1) (some y) := by
  refine ⟨h.1, h.2.1, fun k hk hne => ?_⟩
  by_cases e : k = a
  · subst e; exact hb
  · exact h.2.2 k (by omega) hne
theorem NextTo.ends {y : Nat} (h : NextTo G ds c (G.deg c) (some y)) : G.Edge c y ∧ ds c = ds y + 1 ∧ ∀ x, G.Edge c x → ds c = ds x + 1 → y ≤ x :=
  ⟨h.1, h.2.1, fun x ⟨k, hk, e⟩ hne => by subst e; exact h.2.2 k hk hne⟩
theorem NextTo.never (hD : Dist G start ds) (hc : c < G.n) (h2 : 2 < ds c) (h : NextTo G ds c (G.deg c) none) : False := by
  obtain ⟨y, _, ⟨k, hk, e⟩, _, hd⟩ := hD.succ c hc (by omega) (fun e => by rw [e, hD.st] at h2; omega)
  subst e
  exact h k hk hd
end

theorem row_at {w w' : World} {g n : Nat} {f : Nat → Int} (h : Row .i64 w (some ⟨g, 0, none⟩) n f) (hb : Below w.heap.size w w') {x : Nat} (hx : x < n) : w'.cell? ⟨g, x, none⟩ = some (.int .i64 (f x)) := by
  obtain ⟨_, _, e, _, hc⟩ := h.below hb x hx
  simp at e
  obtain ⟨rfl, rfl⟩ := e
  rw [Nat.zero_add] at hc
  exact hc

theorem owns_one (w : World) (v : Value) : (w.alloc (.cells #[v] 3)).ownsRow w.heap.size 3 1 (.slice (some ⟨w.heap.size, 0, none⟩) 1 1) 1 [v] :=
  ⟨rfl, .inr ⟨w.heap.size, 1, #[v], rfl, Nat.le_refl _, heap_alloc_new w _, Nat.le_refl _, by unfold maxLen; omega, rfl, rfl⟩⟩

/-- While the greedy way is walked: what is still to come may be put behind. -/
structure GW (G : Gr) (ds : Nat → Nat) (c0 : Nat) (tail : List Nat) (c : Nat) : Prop where
  ext : ∀ T, Greedy G ds c T → Greedy G ds c0 (tail ++ T)
  lt : c < G.n
  ge : 2 ≤ ds c
  len : tail.length + ds c = ds c0

theorem GW.step {G : Gr} (hG : G.Ok) {ds : Nat → Nat} {c0 c y : Nat} {tail : List Nat} (h : GW G ds c0 tail c) (h2 : 2 < ds c) (hy : G.Edge c y ∧ ds c = ds y + 1 ∧ ∀ x, G.Edge c x → ds c = ds x + 1 → y ≤ x) : GW G ds c0 (tail ++ [y]) y where
  ext := fun T hT => by
    have := h.ext (y :: T) ⟨hy.1, hy.2.1, hy.2.2, hT⟩
    simpa using this
  lt := hy.1.lt hG h.lt
  ge := by have := hy.2.1; omega
  len := by have := h.len; have := hy.2.1; simp; omega

set_option maxHeartbeats 4000000 in
set_option maxRecDepth 100000 in
theorem least_any (G : Gr) (w : World) (S : Option Addr) (cS start : Nat) (hS : Small G) (hM : InMem w S G) (hs : start < G.n) (hmul : Multi G start) :
    Calls Try.prog 23 #[.slice S G.n cS, .int .i64 start] w (SeqPost G start w) := by
  have hn := hS.n
  have HM0 : Hid (InMem w S G ∧ Small G ∧ Multi G start) := ⟨hM, hS, hmul⟩
  clear hM hS hmul
  generalize hnn : G.n = n at *
  have hmk := run_make_row' (P := Try.prog) 22 3 (.int .i64 0) 8 Try.underlying22 Try.info3 rfl .i64 .i64 n (by omega) (by omega)
  go_enter Try.func23, Try.ntmps23
  go_wp2_with fail
  rw [← hnn]
  refine (reverse_any G w S cS HM0.out.2.1 HM0.out.1).mono ?_
  rw [hnn]
  rintro e w1 ⟨fi, pr, M, g1, g2, rfl, hrev, hfr, hpr, hMb, hb1⟩
  rw [hnn] at hfr ⊢
  have HM : Hid (InMem w1 S G ∧ Small G ∧ Multi G start ∧ Below w.heap.size w w1) := ⟨Lists.below HM0.out.1 hb1, HM0.out.2.1, HM0.out.2.2, hb1⟩
  have HF : Hid (Rev G fi pr M ∧ Row .i64 w1 (some ⟨g1, 0, none⟩) (n + 1) (fun x => ((fi x : Nat) : Int)) ∧ Row .i64 w1 (some ⟨g2, 0, none⟩) M (fun p => ((pr p : Nat) : Int))) := ⟨hrev, hfr, hpr⟩
  clear HM0 hrev hfr hpr hb1
  have H0 : Hid ((w1.alloc (.cells (madeCells #[.int .i64 0] n) 3)).rowIs w1.heap.size 3 n (fun x => .int .i64 (if x < 0 then -1 else 0)) ∧ Below w1.heap.size w1 (w1.alloc (.cells (madeCells #[.int .i64 0] n) 3))) :=
    ⟨(World.rowIs_made w1 (.int .i64 0) n 3).congr (fun x _ => by simp), (Below.refl _ _).alloc (Nat.le_refl _) _⟩
  go_wp2
  go_loopg [9] n (fun k v9 wr => ∃ j : Nat, j ≤ n ∧ n - j = k ∧ v9 = .int .i64 j ∧ Hid (wr.rowIs w1.heap.size 3 n (fun x => .int .i64 (if x < j then -1 else 0)) ∧ Below w1.heap.size w1 wr))
  case atStart => exact ⟨0, by omega, rfl, rfl, H0⟩
  case round =>
    clear H0 hmk
    obtain ⟨j, hj, rfl, rfl, hR⟩ := hrel
    by_cases hlt : j < n
    · have m0 : wr.cell? ⟨w1.heap.size, j, none⟩ = some (.int .i64 (if j < j then -1 else 0)) := hR.out.1.cell hlt
      rw [if_neg (Nat.lt_irrefl _)] at m0
      have m1 : wr.frozen? ⟨w1.heap.size, j, none⟩ = false := hR.out.1.frozen j
      have R : Hid ((wr.setCell ⟨w1.heap.size, j, none⟩ (.int .i64 (-1))).rowIs w1.heap.size 3 n (fun x => .int .i64 (if x < j + 1 then -1 else 0)) ∧ Below w1.heap.size w1 (wr.setCell ⟨w1.heap.size, j, none⟩ (.int .i64 (-1)))) :=
        ⟨(hR.out.1.set j _).congr (fun x _ => by
          by_cases e : x = j
          · subst e; simp
          · by_cases h : x < j
            · have : x < j + 1 := by omega
              simp [e, h, this]
            · have : ¬ x < j + 1 := by omega
              simp [e, h, this]), hR.out.2.setCell (Nat.le_refl _) _⟩
      clear hR
      go_wp2
      go_roundg (n - (j + 1))
      case measure => omega
      case rel =>
        go_light
        exact ⟨j + 1, by omega, rfl, by go_num, R⟩
    · have e : n = j := by omega
      subst e
      have m0 : wr.cell? ⟨w1.heap.size, start, none⟩ = some (.int .i64 (if start < n then -1 else 0)) := hR.out.1.cell hs
      rw [if_pos hs] at m0
      have m1 : wr.frozen? ⟨w1.heap.size, start, none⟩ = false := hR.out.1.frozen start
      have H1 : Hid ((wr.setCell ⟨w1.heap.size, start, none⟩ (.int .i64 0)).rowIs w1.heap.size 3 n (fun x => .int .i64 (((upd (fun _ => 0) start 1 x : Nat) : Int) - 1)) ∧ Below w1.heap.size w1 (wr.setCell ⟨w1.heap.size, start, none⟩ (.int .i64 0))) :=
        ⟨(hR.out.1.set start _).congr (fun x hx => by
          by_cases e : x = start
          · subst e; simp [upd_same]
          · simp [e, upd_ne _ _ e, hx]), hR.out.2.setCell (Nat.le_refl _) _⟩
      clear hR
      obtain ⟨i0, hi0, hz0, hz1, hz3⟩ := info_parts Try.info3
      go_upto_region 9 with fail
      generalize wr.setCell ⟨w1.heap.size, start, none⟩ (.int .i64 0) = w2 at *
      clear m0 m1
      have hsz2 : w1.heap.size + 1 ≤ w2.heap.size := H1.out.1.lt
      go_wp2_with (at_make; refine wpList_make_own _ rfl _ _ 22 rfl (w1.heap.size + 1) 3 i0 (.int .i64 0) 1 Try.underlying22 hi0 hz0 hz1 .i64 .i64 _ n rfl rfl rfl (by rw [hz3]; omega) (by unfold maxLen; omega) hsz2 ?_)
      intro w3 hown3 hg3
      have H3 : Hid (QM n w1 (upd (fun _ => 0) start 1) (.slice (some ⟨w2.heap.size, 0, none⟩) 0 n) [] w3) :=
        ⟨H1.out.1.of_block (hg3.block _ H1.out.1.lt (by simp)), hown3, H1.out.2.grown hg3 (by omega) (fun k hk => by cases hk)⟩
      have hsz3 : w1.heap.size + 1 ≤ w3.heap.size := H3.out.row.lt
      clear hown3 hg3 H1
      generalize Value.slice (some (⟨w2.heap.size, 0, none⟩ : Addr)) 0 n = qv at *
      go_wp2_with (at_builtin; refine wpList_append_own _ rfl (.tmp 44) (.tmp 46) 22 rfl (w1.heap.size + 1) 3 i0 (.int .i64 0) 1 8 Try.underlying22 hi0 hz0 hz1 hz3 rfl (by decide) qv 0 [] rfl (H3.out.own.alloc _) ⟨w3.heap.size, 0, none⟩ 1 1 [.int .i64 (start : Int)] rfl rfl (cell_one_new _ _ _) ?f2 ?f3 ?f4 ?f5 ?_)
      case f2 => first | rfl | (intro u hu; simp at hu; subst hu; rfl)
      case f3 => unfold maxLen; omega
      case f4 => omega
      case f5 => first | omega | (simp; omega)
      intro qv2 w4 hown4 hg4 _
      have H4 : Hid (BB G start fi pr [start] (upd (fun _ => 0) start 1) 0 0 ∧ QM n w1 (upd (fun _ => 0) start 1) qv2 [start] w4) := ⟨BB.first (hnn ▸ hs), H3.out.push (y := start) hown4 hg4⟩
      clear hown4 hg4 H3
      go_wp2
      go_loopg [10, 11] n (fun k v10 v11 wr => ∃ (h : Nat) (Q : List Nat) (ds : Nat → Nat), n - h = k ∧ v11 = .int .i64 h ∧ Hid (BB G start fi pr Q ds h 0 ∧ QM n w1 ds v10 Q wr))
      case atStart => exact ⟨0, [start], _, rfl, rfl, H4⟩
      case round =>
        clear H4 hsz2 hsz3
        obtain ⟨h, Q, ds, rfl, rfl, hR⟩ := hrel
        have hhl := hR.out.1.le
        have hQn : Q.length ≤ n := hnn ▸ hR.out.1.length_le
        by_cases hlt : h < Q.length
        · obtain ⟨rg, rc, rfl, hrc⟩ := owns_list hR.out.2.own (by omega)
          obtain ⟨x, hx⟩ : ∃ x, Q[h]? = some x := ⟨Q[h], by simp⟩
          have hxc := hrc h x hx
          have hxn : x < n := hnn ▸ hR.out.1.lt x (List.mem_of_getElem? hx)
          have hbB := hR.out.2.bel
          obtain ⟨_, _, e, hg1l, hf0⟩ := HF.out.2.1 x (by omega)
          simp at e
          obtain ⟨rfl, rfl⟩ := e
          obtain ⟨_, _, e, _, hf1⟩ := HF.out.2.1 (x + 1) (by omega)
          simp at e
          obtain ⟨rfl, rfl⟩ := e
          rw [Nat.zero_add] at hf0 hf1
          have hfm := HF.out.1.mono x (hnn ▸ hxn)
          have HI : Hid (BB G start fi pr Q ds h (fi x) ∧ QM n w1 ds (.slice (some ⟨rg, 0, none⟩) Q.length rc) Q wr ∧ Q[h]? = some x) := ⟨hR.out.1.at hx, hR.out.2, hx⟩
          have hf0' : wr.cell? ⟨g1, x, none⟩ = some (.int .i64 ((fi x : Nat) : Int)) := (hbB.cell (p := ⟨g1, x, none⟩) hg1l).trans hf0
          have Hf1 : Hid (w1.cell? ⟨g1, x + 1, none⟩ = some (.int .i64 ((fi (x + 1) : Nat) : Int))) := hf1
          have HN : Hid (fi (x + 1) = fi (x + 1)) := rfl
          clear hR hrc hx hf0 hf1
          generalize hfi0 : fi x = f0 at *
          generalize hfi1 : fi (x + 1) = f1 at *
          clear HN
          go_wp2
          go_loopg [10, 13] (f1 - f0) (fun k v10 v13 wr => ∃ (p : Nat) (Q : List Nat) (ds : Nat → Nat), f0 ≤ p ∧ p ≤ f1 ∧ f1 - p = k ∧ v13 = .int .i64 p ∧ Hid (BB G start fi pr Q ds h p ∧ QM n w1 ds v10 Q wr ∧ Q[h]? = some x))
          case atStart => exact ⟨f0, Q, ds, by omega, hfm.1, rfl, rfl, HI⟩
          case round =>
            clear HI hxc hlt hhl hQn hf0' hbB
            obtain ⟨p, Q, ds, hp0, hp1, rfl, rfl, hR⟩ := hrel
            have hQn : Q.length ≤ n := hnn ▸ hR.out.1.length_le
            have hbB := hR.out.2.1.bel
            have hf1' : wr.cell? ⟨g1, x + 1, none⟩ = some (.int .i64 ((f1 : Nat) : Int)) := (hbB.cell (p := ⟨g1, x + 1, none⟩) hg1l).trans Hf1.out
            by_cases hlt2 : p < f1
            · obtain ⟨_, _, e, hg2l, hpc⟩ := HF.out.2.2 p (by omega)
              simp at e
              obtain ⟨rfl, rfl⟩ := e
              rw [Nat.zero_add] at hpc
              have hpc' : wr.cell? ⟨g2, p, none⟩ = some (.int .i64 ((pr p : Nat) : Int)) := (hbB.cell (p := ⟨g2, p, none⟩) hg2l).trans hpc
              have hyn : pr p < n := hnn ▸ HF.out.1.lt p (by omega)
              have hedge : G.Edge (pr p) x := ((HF.out.1.iff x (pr p) (hnn ▸ hxn)).2 ⟨p, by rw [hfi0]; exact hp0, by rw [hfi1]; exact hlt2, rfl⟩).1
              have md : wr.cell? ⟨w1.heap.size, pr p, none⟩ = some (.int .i64 (((ds (pr p) : Nat) : Int) - 1)) := hR.out.2.1.row.cell hyn
              have mf : wr.frozen? ⟨w1.heap.size, pr p, none⟩ = false := hR.out.2.1.row.frozen _
              have mx : wr.cell? ⟨w1.heap.size, x, none⟩ = some (.int .i64 (((ds x : Nat) : Int) - 1)) := hR.out.2.1.row.cell hxn
              have hbx := hR.out.1.bound x
              have hby := hR.out.1.bound (pr p)
              clear hpc
              by_cases hz : ds (pr p) = 0
              · have HK : Hid (BB G start fi pr (Q ++ [pr p]) (upd ds (pr p) (ds x + 1)) h (p + 1) ∧ (Q ++ [pr p])[h]? = some x) :=
                  ⟨hR.out.1.push hR.out.2.2 hz (hnn ▸ hyn) hedge, by rw [List.getElem?_append_left (List.getElem?_eq_some_iff.1 hR.out.2.2).1]; exact hR.out.2.2⟩
                have HS := hR.out.2.1.set (pr p) (ds x + 1)
                rw [show (((ds x + 1 : Nat)) : Int) - 1 = ((ds x : Nat) : Int) by omega] at HS
                have hlc := (List.getElem?_eq_some_iff.1 HK.out.2).1
                have hQ1 : Q.length + 1 ≤ n := by
                  have := HK.out.1.length_le
                  simp at this
                  omega
                rw [hz] at md
                clear hR hedge hz
                generalize pr p = y at *
                generalize ds x = dx at *
                go_upto_region 21 with fail
                generalize wr.setCell ⟨w1.heap.size, y, none⟩ (.int .i64 (dx : Int)) = w6 at *
                clear md mf mx hpc' hf1'
                have H6 := (show Hid _ from HS)
                have hlt6 := HS.row.lt
                have hbs6 := HS.bel.size
                clear HS
                go_wp2_with (at_builtin; refine wpList_append_own _ rfl (.tmp 88) (.tmp 90) 22 rfl (w1.heap.size + 1) 3 i0 (.int .i64 0) 1 8 Try.underlying22 hi0 hz0 hz1 hz3 rfl (by decide) u10 Q.length (nums Q) rfl (H6.out.own.alloc _) ⟨w6.heap.size, 0, none⟩ 1 1 [.int .i64 (y : Int)] rfl rfl (cell_one_new _ _ _) ?g2 ?g3 ?g4 ?g5 ?_)
                case g2 => first | rfl | (intro u hu; simp at hu; subst hu; rfl)
                case g3 => unfold maxLen; omega
                case g4 => omega
                case g5 => first | omega | (simp; omega)
                intro qv3 w7 hown7 hg7 _
                have R := (show Hid _ from And.intro HK.out.1 (And.intro (H6.out.push (y := y) hown7 hg7) HK.out.2))
                clear hown7 hg7 H6 HK
                go_wp2
                go_roundg (f1 - (p + 1))
                case measure => omega
                case rel =>
                  go_light
                  exact ⟨p + 1, _, _, by omega, by omega, rfl, by go_num, R⟩
              · have R : Hid (BB G start fi pr Q ds h (p + 1) ∧ QM n w1 ds u10 Q wr ∧ Q[h]? = some x) := ⟨hR.out.1.skip hR.out.2.2 hz, hR.out.2⟩
                clear hR hedge
                generalize pr p = y at *
                generalize ds y = dy at *
                have hneg : ¬ (((dy : Nat) : Int) - 1 < 0) := by omega
                go_wp2
                go_roundg (f1 - (p + 1))
                case measure => omega
                case rel =>
                  go_light
                  exact ⟨p + 1, _, _, by omega, by omega, rfl, by go_num, R⟩
            · have e : f1 = p := by omega
              subst e
              have R : Hid (BB G start fi pr Q ds (h + 1) 0 ∧ QM n w1 ds u10 Q wr) := ⟨hR.out.1.next HF.out.1 hR.out.2.2 (Nat.le_of_eq hfi1), hR.out.2.1⟩
              have hhl : h < Q.length := (List.getElem?_eq_some_iff.1 hR.out.2.2).1
              clear hR
              go_wp2
              go_roundg (n - (h + 1))
              case measure => omega
              case rel =>
                go_light
                exact ⟨h + 1, _, _, rfl, by go_num, R⟩
        · have e : h = Q.length := by omega
          obtain ⟨ra, rc, rfl⟩ := owns_slice hR.out.2.own
          have HD : Hid (Dist G start ds ∧ Row .i64 wr (some ⟨w1.heap.size, 0, none⟩) n (fun x => ((ds x : Nat) : Int) - 1) ∧ Below w.heap.size w wr ∧ InMem wr S G ∧ ∀ x, ds x ≤ n) :=
            ⟨hR.out.1.ends e, Row.of_rowIs hR.out.2.row, bthen HM.out.2.2.2 hR.out.2.bel, Lists.below HM.out.1 hR.out.2.bel, fun x => Nat.le_trans (hR.out.1.bound x) hQn⟩
          clear hR hhl HF
          subst e
          obtain ⟨w5, hw5⟩ : ∃ w5, w5 = wr := ⟨_, rfl⟩
          subst hw5
          generalize w1.heap.size = N1 at *
          generalize Q.length = ql at *
          go_wp2
          obtain ⟨sb, so, lx, lc, hSe, hsb, hl0, hlr⟩ := HD.out.2.2.2.1 start (hnn ▸ hs)
          subst hSe
          have HL : Hid (Row .i64 w5 lx (G.deg start) (fun k => ((G.adj start k : Nat) : Int)) ∧ w5.cell? ⟨sb, so + start, none⟩ = some (.slice lx (G.deg start) lc)) := ⟨hlr, hl0⟩
          clear hlr hl0
          have hdeg := HM.out.2.1.deg start (hnn ▸ hs)
          generalize hdd : G.deg start = dj at *
          go_loopg [15, 16] dj (fun k v15 v16 wr => ∃ (a : Nat) (o : Option Nat), a ≤ dj ∧ dj - a = k ∧ v15 = .int .i64 (optI o) ∧ v16 = .int .i64 a ∧ Hid (BestTo G start ds a o) ∧ Below w5.heap.size w5 wr)
          case atStart => exact ⟨0, none, by omega, rfl, rfl, rfl, fun k hk => absurd hk (Nat.not_lt_zero _), Below.refl _ _⟩
          case round =>
            obtain ⟨a, o, ha, rfl, rfl, rfl, hB, hbw⟩ := hrel
            have hl1 := (hbw.cell (p := ⟨sb, so + start, none⟩) hsb).trans HL.out.2
            by_cases hlt2 : a < dj
            · obtain ⟨lb, lo, hle, _, hlc⟩ := HL.out.1.below hbw a hlt2
              subst hle
              have hyn : G.adj start a < n := hnn ▸ HM.out.2.1.ok start (hnn ▸ hs) a (hdd ▸ hlt2)
              have hlc2 : wr.cell? ⟨lb, lo + a, none⟩ = some (.int .i64 ((G.adj start a : Nat) : Int)) := hlc
              clear hlc
              have hdy : wr.cell? ⟨N1, G.adj start a, none⟩ = some (.int .i64 (((ds (G.adj start a) : Nat) : Int) - 1)) := row_at HD.out.2.1 hbw hyn
              have hbd := HD.out.2.2.2.2 (G.adj start a)
              by_cases hz : ds (G.adj start a) = 0
              · have R : Hid (BestTo G start ds (a + 1) o) := hB.out.zero hz
                rw [hz] at hdy
                clear hB
                generalize G.adj start a = y at *
                generalize hoi : optI o = oi at *
                go_wp2
                go_roundg (dj - (a + 1))
                case measure => omega
                case rel =>
                  go_light
                  exact ⟨a + 1, o, by omega, rfl, by rw [hoi], by go_num, R, hbw⟩
              · have hge : ¬ (((ds (G.adj start a) : Nat) : Int) - 1 < 0) := by omega
                cases o with
                | none =>
                  have R : Hid (BestTo G start ds (a + 1) (some (G.adj start a))) := hB.out.new (hdd ▸ hlt2) hz
                  clear hB
                  simp only [optI]
                  generalize G.adj start a = y at *
                  generalize ((ds y : Nat) : Int) - 1 = ey at *
                  go_upto_region 28 with fail
                  go_quiet (fail)
                  go_wp2
                  go_roundg (dj - (a + 1))
                  case measure => omega
                  case rel =>
                    go_light
                    exact ⟨a + 1, some y, by omega, rfl, rfl, by go_num, R, below_drewN hbw _⟩
                | some c =>
                  have hcn : c < n := hnn ▸ (hB.out.1.lt HM.out.2.1.ok (hnn ▸ hs))
                  have hdc : wr.cell? ⟨N1, c, none⟩ = some (.int .i64 (((ds c : Nat) : Int) - 1)) := row_at HD.out.2.1 hbw hcn
                  have hbc := HD.out.2.2.2.2 c
                  simp only [optI]
                  have e0 : decide (((c : Nat) : Int) < 0) = false := by simp
                  by_cases h1 : ds (G.adj start a) < ds c
                  · have R : Hid (BestTo G start ds (a + 1) (some (G.adj start a))) := hB.out.better (hdd ▸ hlt2) hz (.inl h1)
                    have e1 : decide (((ds (G.adj start a) : Nat) : Int) - 1 < ((ds c : Nat) : Int) - 1) = true := by simp; omega
                    clear hB
                    generalize G.adj start a = y at *
                    generalize ((ds y : Nat) : Int) - 1 = ey at *
                    generalize ((ds c : Nat) : Int) - 1 = ec at *
                    go_upto_region 28 with fail
                    go_quiet (fail)
                    go_wp2
                    go_roundg (dj - (a + 1))
                    case measure => omega
                    case rel =>
                      go_light
                      exact ⟨a + 1, some y, by omega, rfl, rfl, by go_num, R, below_drewN hbw _⟩
                  · have e1 : decide (((ds (G.adj start a) : Nat) : Int) - 1 < ((ds c : Nat) : Int) - 1) = false := by simp; omega
                    by_cases h2 : ds (G.adj start a) = ds c
                    · have e2 : ((((ds (G.adj start a) : Nat) : Int) - 1) == (((ds c : Nat) : Int) - 1)) = true := by simp; omega
                      by_cases h3 : G.adj start a < c
                      · have R : Hid (BestTo G start ds (a + 1) (some (G.adj start a))) := hB.out.better (hdd ▸ hlt2) hz (.inr ⟨h2, h3⟩)
                        have e3 : decide (((G.adj start a : Nat) : Int) < ((c : Nat) : Int)) = true := by simp; omega
                        clear hB
                        generalize G.adj start a = y at *
                        generalize ((ds y : Nat) : Int) - 1 = ey at *
                        generalize ((ds c : Nat) : Int) - 1 = ec at *
                        clear h1 h2
                        go_upto_region 28 with fail
                        go_quiet (fail)
                        go_wp2
                        go_roundg (dj - (a + 1))
                        case measure => omega
                        case rel =>
                          go_light
                          exact ⟨a + 1, some y, by omega, rfl, rfl, by go_num, R, below_drewN hbw _⟩
                      · have R : Hid (BestTo G start ds (a + 1) (some c)) := hB.out.keep (.inr ⟨h2.symm, by omega⟩)
                        have e3 : decide (((G.adj start a : Nat) : Int) < ((c : Nat) : Int)) = false := by simp; omega
                        clear hB
                        generalize G.adj start a = y at *
                        generalize ((ds y : Nat) : Int) - 1 = ey at *
                        generalize ((ds c : Nat) : Int) - 1 = ec at *
                        clear h1 h2
                        go_upto_region 28 with fail
                        go_quiet (fail)
                        go_wp2
                        go_roundg (dj - (a + 1))
                        case measure => omega
                        case rel =>
                          go_light
                          exact ⟨a + 1, some c, by omega, rfl, rfl, by go_num, R, below_drewN hbw _⟩
                    · have e2 : ((((ds (G.adj start a) : Nat) : Int) - 1) == (((ds c : Nat) : Int) - 1)) = false := by simp; omega
                      have R : Hid (BestTo G start ds (a + 1) (some c)) := hB.out.keep (.inl (by omega))
                      clear hB
                      generalize G.adj start a = y at *
                      generalize ((ds y : Nat) : Int) - 1 = ey at *
                      generalize ((ds c : Nat) : Int) - 1 = ec at *
                      clear h1 h2
                      go_upto_region 28 with fail
                      go_quiet (fail)
                      go_wp2
                      go_roundg (dj - (a + 1))
                      case measure => omega
                      case rel =>
                        go_light
                        exact ⟨a + 1, some c, by omega, rfl, rfl, by go_num, R, below_drewN hbw _⟩
            · have e : dj = a := by omega
              subst e
              cases o with
              | none => exact absurd (hdd ▸ hB.out) (fun h => BestTo.never HM.out.2.1.ok (hnn ▸ hs) HD.out.1 h HM.out.2.2.1)
              | some c =>
                have HB : Hid (Best G start ds c) := BestTo.ends (hdd ▸ hB.out)
                clear hB
                have hcn : c < n := hnn ▸ (HB.out.edge.lt HM.out.2.1.ok (hnn ▸ hs))
                have HD6 : Hid (Row .i64 wr (some ⟨N1, 0, none⟩) n (fun x => ((ds x : Nat) : Int) - 1) ∧ Below w.heap.size w wr ∧ InMem wr (some ⟨sb, so, none⟩) G) := ⟨HD.out.2.1.below hbw, bthen HD.out.2.2.1 hbw, Lists.below HD.out.2.2.2.1 hbw⟩
                have HDs : Hid (Dist G start ds ∧ ∀ x, ds x ≤ n) := ⟨HD.out.1, HD.out.2.2.2.2⟩
                clear HD hbw HL hsb
                obtain ⟨w6, hw6⟩ : ∃ w6, w6 = wr := ⟨_, rfl⟩
                subst hw6
                simp only [optI]
                have hwb : w.heap.size ≤ w6.heap.size := HD6.out.2.1.size
                have hbA : Below w6.heap.size w6 (w6.alloc (.cells #[.int .i64 (start : Int)] 3)) := (Below.refl _ _).alloc (Nat.le_refl _) _
                by_cases hcs : c = start
                · subst hcs
                  have HF : Hid (Closed G c [] ∧ (∀ P', Closed G c P' → SLE [] P') ∧ (w6.alloc (.cells #[.int .i64 (c : Int)] 3)).ownsRow w.heap.size 3 1 (.slice (some ⟨w6.heap.size, 0, none⟩) 1 1) 1 (nums [c]) ∧ Below w.heap.size w (w6.alloc (.cells #[.int .i64 (c : Int)] 3))) := by
                    refine ⟨HB.out.nil.1, HB.out.nil.2, ?_, bthen HD6.out.2.1 hbA⟩
                    have ho := owns_one w6 (.int .i64 (c : Int))
                    refine ⟨ho.1, ?_⟩
                    rcases ho.2 with h | ⟨g, c', cur, h1, h2, h3⟩
                    · exact .inl h
                    · exact .inr ⟨g, c', cur, h1, by omega, h3⟩
                  have hB : ((c : Int) == (c : Int)) = true := by simp
                  go_wp2
                  go_ret
                  exact ⟨[], w6.heap.size, 1, rfl, HF.out.1, HF.out.2.1, HF.out.2.2.1, by simp, HF.out.2.2.2⟩
                · have hB : ((c : Int) == (start : Int)) = false := by simp; omega
                  go_wp2_with (at_builtin; refine wpList_append_own _ rfl (.tmp 151) (.tmp 153) 22 rfl w6.heap.size 3 i0 (.int .i64 0) 1 8 Try.underlying22 hi0 hz0 hz1 hz3 rfl (by decide) (.slice (some ⟨w6.heap.size, 0, none⟩) 1 1) 1 [.int .i64 (start : Int)] rfl ((owns_one w6 (.int .i64 (start : Int))).alloc _) ⟨w6.heap.size + 1, 0, none⟩ 1 1 [.int .i64 (c : Int)] rfl rfl ?h1 ?h2 ?h3 ?h4 ?h5 ?_)
                  case h1 =>
                    intro j u hj
                    have hj0 : j = 0 := by
                      have := (List.getElem?_eq_some_iff.1 hj).1
                      simpa using this
                    subst hj0
                    simp at hj
                    subst hj
                    simp [Addr.add]
                  case h2 => intro u hu; simp at hu; subst hu; rfl
                  case h3 => unfold maxLen; omega
                  case h4 => omega
                  case h5 => simp; omega
                  intro sv w7 hown7 hg7 _
                  have hb7 : Below w6.heap.size w6 w7 := (hbA.alloc (by simp) _).grown hg7 (by simp; omega) (fun k hk => by simp [Value.ownBlock] at hk; omega)
                  have H7 : Hid (GW G ds c [] c ∧ w7.ownsRow w6.heap.size 3 1 sv 2 (nums (start :: c :: [])) ∧ Below w6.heap.size w6 w7) := by
                    refine ⟨⟨fun T hT => hT, hnn ▸ hcn, ?_, by simp⟩, hown7, hb7⟩
                    have h1 := HB.out.ne
                    have h2 : ds c ≠ 1 := fun e => hcs (HDs.out.1.one c (hnn ▸ hcn) e)
                    omega
                  clear hown7 hg7 hb7 hbA
                  go_wp2
                  go_loopg [15, 18] (ds c) (fun k v15 v18 wr => ∃ (x : Nat) (tail : List Nat), ds x = k ∧ v15 = .int .i64 x ∧ Hid (GW G ds c tail x ∧ wr.ownsRow w6.heap.size 3 1 v18 (tail.length + 2) (nums (start :: c :: tail)) ∧ Below w6.heap.size w6 wr))
                  case atStart => exact ⟨c, [], rfl, rfl, H7⟩
                  case round =>
                    clear H7
                    obtain ⟨x, tail, rfl, rfl, hR⟩ := hrel
                    have hxn : x < n := hnn ▸ hR.out.1.lt
                    have hbw := hR.out.2.2
                    have hdx : wr.cell? ⟨N1, x, none⟩ = some (.int .i64 (((ds x : Nat) : Int) - 1)) := row_at HD6.out.1 hbw hxn
                    have hbx := HDs.out.2 x
                    have hge := hR.out.1.ge
                    have hbc := HDs.out.2 c
                    have htl := hR.out.1.len
                    by_cases hbig : 2 < ds x
                    · have hbI : (1 : Int) < ((ds x : Nat) : Int) - 1 := by omega
                      obtain ⟨wL, hwL⟩ : ∃ wL, wL = wr := ⟨_, rfl⟩
                      subst hwL
                      obtain ⟨sb', so', lx2, lc2, hSe, hsb, hl0, hlr⟩ := (Lists.below HD6.out.2.2 hbw) x (hnn ▸ hxn)
                      simp at hSe
                      obtain ⟨rfl, rfl⟩ := hSe
                      have HL : Hid (Row .i64 wL lx2 (G.deg x) (fun k => ((G.adj x k : Nat) : Int)) ∧ wL.cell? ⟨sb, so + x, none⟩ = some (.slice lx2 (G.deg x) lc2) ∧ Row .i64 wL (some ⟨N1, 0, none⟩) n (fun x => ((ds x : Nat) : Int) - 1)) := ⟨hlr, hl0, HD6.out.1.below hbw⟩
                      clear hlr hl0
                      have hdeg := HM.out.2.1.deg x (hnn ▸ hxn)
                      generalize hdd2 : G.deg x = dx at *
                      go_wp2
                      go_loopg [19, 20] dx (fun k v19 v20 wr => ∃ (a : Nat) (o : Option Nat), a ≤ dx ∧ dx - a = k ∧ v19 = .int .i64 (optI o) ∧ v20 = .int .i64 a ∧ Hid (NextTo G ds x a o) ∧ Below wL.heap.size wL wr)
                      case atStart => exact ⟨0, none, by omega, rfl, rfl, rfl, fun k hk => absurd hk (Nat.not_lt_zero _), Below.refl _ _⟩
                      case round =>
                        clear hdx
                        obtain ⟨a, o, ha, rfl, rfl, rfl, hB, hbw2⟩ := hrel
                        have hl1 := (hbw2.cell (p := ⟨sb, so + x, none⟩) hsb).trans HL.out.2.1
                        by_cases hlt2 : a < dx
                        · obtain ⟨lb, lo, hle, _, hlc⟩ := HL.out.1.below hbw2 a hlt2
                          subst hle
                          have hyn : G.adj x a < n := hnn ▸ HM.out.2.1.ok x (hnn ▸ hxn) a (hdd2 ▸ hlt2)
                          have hlc2 : wr.cell? ⟨lb, lo + a, none⟩ = some (.int .i64 ((G.adj x a : Nat) : Int)) := hlc
                          clear hlc
                          have hdy : wr.cell? ⟨N1, G.adj x a, none⟩ = some (.int .i64 (((ds (G.adj x a) : Nat) : Int) - 1)) := row_at HL.out.2.2 hbw2 hyn
                          have hdx : wr.cell? ⟨N1, x, none⟩ = some (.int .i64 (((ds x : Nat) : Int) - 1)) := row_at HL.out.2.2 hbw2 hxn
                          have hbd := HDs.out.2 (G.adj x a)
                          have hec : (-1 : Int) ≤ ((ds x : Nat) : Int) - 1 ∧ ((ds x : Nat) : Int) - 1 ≤ 65536 := by omega
                          by_cases hz : ds x = ds (G.adj x a) + 1
                          · have e1 : ((((ds (G.adj x a) : Nat) : Int) - 1) == (((ds x : Nat) : Int) - 1 - 1)) = true := by simp; omega
                            cases o with
                            | none =>
                              have R : Hid (NextTo G ds x (a + 1) (some (G.adj x a))) := hB.out.new (hdd2 ▸ hlt2) hz
                              clear hB hz
                              simp only [optI]
                              generalize G.adj x a = y at *
                              generalize ((ds y : Nat) : Int) - 1 = ey at *
                              generalize ((ds x : Nat) : Int) - 1 = ec at *
                              go_upto_region 42 with fail
                              go_quiet (fail)
                              go_wp2
                              go_roundg (dx - (a + 1))
                              case measure => omega
                              case rel =>
                                go_light
                                exact ⟨a + 1, some y, by omega, rfl, rfl, by go_num, R, below_drewN hbw2 _⟩
                            | some z =>
                              simp only [optI]
                              have e0 : decide (((z : Nat) : Int) < 0) = false := by simp
                              by_cases h3 : G.adj x a < z
                              · have R : Hid (NextTo G ds x (a + 1) (some (G.adj x a))) := hB.out.better (hdd2 ▸ hlt2) hz h3
                                have e3 : decide (((G.adj x a : Nat) : Int) < ((z : Nat) : Int)) = true := by simp; omega
                                clear hB hz
                                generalize G.adj x a = y at *
                                generalize ((ds y : Nat) : Int) - 1 = ey at *
                                generalize ((ds x : Nat) : Int) - 1 = ec at *
                                go_upto_region 42 with fail
                                go_quiet (fail)
                                go_wp2
                                go_roundg (dx - (a + 1))
                                case measure => omega
                                case rel =>
                                  go_light
                                  exact ⟨a + 1, some y, by omega, rfl, rfl, by go_num, R, below_drewN hbw2 _⟩
                              · have R : Hid (NextTo G ds x (a + 1) (some z)) := hB.out.keep (by omega)
                                have e3 : decide (((G.adj x a : Nat) : Int) < ((z : Nat) : Int)) = false := by simp; omega
                                clear hB hz
                                generalize G.adj x a = y at *
                                generalize ((ds y : Nat) : Int) - 1 = ey at *
                                generalize ((ds x : Nat) : Int) - 1 = ec at *
                                go_upto_region 42 with fail
                                go_quiet (fail)
                                go_wp2
                                go_roundg (dx - (a + 1))
                                case measure => omega
                                case rel =>
                                  go_light
                                  exact ⟨a + 1, some z, by omega, rfl, rfl, by go_num, R, below_drewN hbw2 _⟩
                          · have e1 : ((((ds (G.adj x a) : Nat) : Int) - 1) == (((ds x : Nat) : Int) - 1 - 1)) = false := by simp; omega
                            have R : Hid (NextTo G ds x (a + 1) o) := hB.out.miss hz
                            clear hB hz
                            generalize hoi : optI o = oi at *
                            generalize G.adj x a = y at *
                            generalize ((ds y : Nat) : Int) - 1 = ey at *
                            generalize ((ds x : Nat) : Int) - 1 = ec at *
                            go_upto_region 42 with fail
                            go_quiet (fail)
                            go_wp2
                            go_roundg (dx - (a + 1))
                            case measure => omega
                            case rel =>
                              go_light
                              exact ⟨a + 1, o, by omega, rfl, by rw [hoi], by go_num, R, below_drewN hbw2 _⟩
                        · have e : dx = a := by omega
                          subst e
                          cases o with
                          | none => exact absurd (hdd2 ▸ hB.out) (fun h => NextTo.never HDs.out.1 (hnn ▸ hxn) hbig h)
                          | some y =>
                            have hye := NextTo.ends (hdd2 ▸ hB.out)
                            have hds := hye.2.1
                            have HG2 : Hid (GW G ds c (tail ++ [y]) y) := hR.out.1.step HM.out.2.1.ok hbig hye
                            have hown2 : wr.ownsRow w6.heap.size 3 1 u18 (tail.length + 2) (nums (start :: c :: tail)) := owns_of_block hR.out.2.1 (fun k hk => hbw2.block k (hR.out.2.1.lt k hk).2)
                            have HO : Hid (wr.ownsRow w6.heap.size 3 1 u18 (tail.length + 2) (nums (start :: c :: tail)) ∧ Below w6.heap.size w6 wr) := ⟨hown2, hbw.trans (hbw2.mono hbw.size)⟩
                            have hs6 : w6.heap.size ≤ wr.heap.size := HO.out.2.size
                            clear hye hown2 hB
                            simp only [optI]
                            go_wp2_with (at_builtin; refine wpList_append_own _ rfl (.tmp 198) (.tmp 200) 22 rfl w6.heap.size 3 i0 (.int .i64 0) 1 8 Try.underlying22 hi0 hz0 hz1 hz3 rfl (by decide) u18 (tail.length + 2) (nums (start :: c :: tail)) rfl (HO.out.1.alloc _) ⟨wr.heap.size, 0, none⟩ 1 1 [.int .i64 (y : Int)] rfl rfl (cell_one_new _ _ _) ?k2 ?k3 ?k4 ?k5 ?_)
                            case k2 => first | rfl | (intro u hu; simp at hu; subst hu; rfl)
                            case k3 => unfold maxLen; omega
                            case k4 => omega
                            case k5 => first | omega | (simp; omega)
                            intro v18 w8 hown8 hg8 _
                            have R : Hid (GW G ds c (tail ++ [y]) y ∧ w8.ownsRow w6.heap.size 3 1 v18 ((tail ++ [y]).length + 2) (nums (start :: c :: (tail ++ [y]))) ∧ Below w6.heap.size w6 w8) := by
                              refine ⟨HG2.out, ?_, (HO.out.2.alloc hs6 _).grown hg8 (by simp; omega) (fun k hk => (HO.out.1.lt k hk).1)⟩
                              have e1 : (tail ++ [y]).length + 2 = tail.length + 2 + 1 := by simp
                              have e2 : nums (start :: c :: (tail ++ [y])) = nums (start :: c :: tail) ++ [.int .i64 (y : Int)] := by simp [nums]
                              rw [e1, e2]
                              exact hown8
                            clear hown8 hg8 HO HG2 hR
                            go_wp2
                            go_roundg (ds y)
                            case measure => omega
                            case rel =>
                              go_light
                              exact ⟨y, _, rfl, rfl, R⟩
                    · have h2 : ds x = 2 := by omega
                      have hT := hR.out.1.ext [] h2
                      rw [List.append_nil] at hT
                      have hcl := HB.out.cons HM.out.2.1.ok (hnn ▸ hs) HDs.out.1 hcs hT
                      obtain ⟨g, cc, cur, rfl, hg, hh⟩ := owns_some (m := tail.length + 1) hR.out.2.1
                      have HF : Hid (Closed G start (c :: tail) ∧ (∀ P', Closed G start P' → SLE (c :: tail) P') ∧ wr.ownsRow w.heap.size 3 1 (.slice (some ⟨g, 0, none⟩) (tail.length + 1 + 1) cc) (tail.length + 1 + 1) (nums (start :: c :: tail)) ∧ Below w.heap.size w wr) :=
                        ⟨hcl.1, hcl.2, ⟨hR.out.2.1.1, .inr ⟨g, cc, cur, rfl, by omega, hh⟩⟩, bthen HD6.out.2.1 hbw⟩
                      have hnI : ¬ (1 : Int) < ((ds x : Nat) : Int) - 1 := by omega
                      clear hR hT hcl hg hh
                      go_wp2
                      go_ret
                      exact ⟨c :: tail, g, cc, rfl, HF.out.1, HF.out.2.1, HF.out.2.2.1, by simp; omega, HF.out.2.2.2⟩
end Go.Proofs.Qxb6601860a
