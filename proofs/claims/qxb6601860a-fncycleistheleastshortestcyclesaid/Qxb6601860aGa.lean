/-
  PLAIN: counting, graphs, and the invariant of Tarjan's algorithm as Components runs it. No Go in sight.
-/
namespace Go.Proofs.Qxb6601860a
set_option linter.unusedVariables false

/-! ### Counting -/
def cnt (p : Nat → Bool) : Nat → Nat
  | 0 => 0
  | n + 1 => cnt p n + (if p n then 1 else 0)

theorem cnt_le (p : Nat → Bool) : ∀ n, cnt p n ≤ n
  | 0 => Nat.le_refl _
  | n + 1 => by have := cnt_le p n; simp only [cnt]; split <;> omega

theorem cnt_congr {p q : Nat → Bool} : ∀ {n}, (∀ i, i < n → p i = q i) → cnt p n = cnt q n
  | 0, _ => rfl
  | n + 1, h => by simp only [cnt]; rw [cnt_congr (fun i hi => h i (by omega)), h n (by omega)]

theorem cnt_add {p q : Nat → Bool} {x : Nat} (hp : p x = false) (hq : q x = true) (ho : ∀ i, i ≠ x → q i = p i) : ∀ {n}, cnt q n = cnt p n + (if x < n then 1 else 0)
  | 0 => by simp [cnt]
  | n + 1 => by
    have ih := cnt_add hp hq ho (n := n)
    simp only [cnt]
    rw [ih]
    by_cases e : n = x
    · subst e
      simp [hp, hq]
    · have e2 : (x < n + 1) ↔ (x < n) := by omega
      simp only [ho n e, e2]
      omega

theorem cnt_full {p : Nat → Bool} : ∀ {n}, cnt p n = n → ∀ i, i < n → p i = true
  | 0, _, i, hi => by omega
  | n + 1, h, i, hi => by
    simp only [cnt] at h
    have := cnt_le p n
    by_cases hp : p n = true
    · simp [hp] at h
      by_cases e : i = n
      · subst e; exact hp
      · exact cnt_full h i (by omega)
    · simp [hp] at h; omega

theorem cnt_zero {p : Nat → Bool} : ∀ {n}, (∀ i, i < n → p i = false) → cnt p n = 0
  | 0, _ => rfl
  | n + 1, h => by simp only [cnt]; rw [cnt_zero (fun i hi => h i (by omega)), h n (by omega)]; simp

theorem cnt_lt_of {p : Nat → Bool} {n x : Nat} (hx : x < n) (hp : p x = false) : cnt p n < n := by
  rcases Nat.lt_or_ge (cnt p n) n with h | h
  · exact h
  · have := cnt_full (Nat.le_antisymm (cnt_le p n) h) x hx
    rw [hp] at this; cases this

def sumTo (f : Nat → Nat) : Nat → Nat
  | 0 => 0
  | n + 1 => sumTo f n + f n

theorem sumTo_le {f g : Nat → Nat} : ∀ {n}, (∀ i, i < n → f i ≤ g i) → sumTo f n ≤ sumTo g n
  | 0, _ => Nat.le_refl _
  | n + 1, h => by have := sumTo_le (n := n) (fun i hi => h i (by omega)); have := h n (by omega); simp only [sumTo]; omega

theorem sumTo_succ_at {f g : Nat → Nat} {x : Nat} (hx : g x = f x + 1) (ho : ∀ i, i ≠ x → g i = f i) : ∀ {n}, sumTo g n = sumTo f n + (if x < n then 1 else 0)
  | 0 => by simp [sumTo]
  | n + 1 => by
    have ih := sumTo_succ_at hx ho (n := n)
    simp only [sumTo]
    rw [ih]
    by_cases e : n = x
    · subst e
      simp [hx]
      omega
    · have e2 : (x < n + 1) ↔ (x < n) := by omega
      simp only [ho n e, e2]
      omega

/-! ### Graphs -/
structure Gr where
  n : Nat
  deg : Nat → Nat
  adj : Nat → Nat → Nat

def Gr.Ok (G : Gr) : Prop := ∀ v, v < G.n → ∀ k, k < G.deg v → G.adj v k < G.n
def Gr.Edge (G : Gr) (u v : Nat) : Prop := ∃ k, k < G.deg u ∧ G.adj u k = v
def Gr.Path (G : Gr) : Nat → List Nat → Nat → Prop
  | u, [], v => u = v
  | u, x :: l, v => G.Edge u x ∧ Gr.Path G x l v
def Gr.Reach (G : Gr) (u v : Nat) : Prop := ∃ l, G.Path u l v

namespace Gr
variable {G : Gr}
theorem Path.app : ∀ {l m : List Nat} {u v x : Nat}, G.Path u l v → G.Path v m x → G.Path u (l ++ m) x
  | [], m, u, v, x, h, k => by
    have e : u = v := h
    subst e; exact k
  | y :: l, m, u, v, x, h, k => ⟨h.1, Path.app h.2 k⟩
theorem Reach.refl (u : Nat) : G.Reach u u := ⟨[], rfl⟩
theorem Reach.edge {u v : Nat} (h : G.Edge u v) : G.Reach u v := ⟨[v], h, rfl⟩
theorem Reach.trans {u v x : Nat} (h : G.Reach u v) (k : G.Reach v x) : G.Reach u x := by
  obtain ⟨l, hl⟩ := h
  obtain ⟨m, hm⟩ := k
  exact ⟨l ++ m, hl.app hm⟩
theorem Reach.closed {S : Nat → Prop} (hS : ∀ u v, S u → G.Edge u v → S v) {u v : Nat} (hu : S u) (h : G.Reach u v) : S v := by
  obtain ⟨l, hl⟩ := h
  induction l generalizing u with
  | nil => have e : u = v := hl; exact e ▸ hu
  | cons x l ih => exact ih (hS _ _ hu hl.1) hl.2
theorem Edge.lt (hG : G.Ok) {u v : Nat} (hu : u < G.n) (h : G.Edge u v) : v < G.n := by
  obtain ⟨k, hk, rfl⟩ := h
  exact hG u hu k hk
theorem Reach.lt (hG : G.Ok) {u v : Nat} (hu : u < G.n) (h : G.Reach u v) : v < G.n :=
  Reach.closed (S := fun x => x < G.n) (fun _ _ hu he => he.lt hG hu) hu h
end Gr

/-! ### Tarjan's state -/
def upd (f : Nat → Nat) (i x : Nat) : Nat → Nat := fun v => if v = i then x else f v
theorem upd_same (f : Nat → Nat) (i x : Nat) : upd f i x i = x := by simp [upd]
theorem upd_ne (f : Nat → Nat) {i v : Nat} (x : Nat) (h : v ≠ i) : upd f i x v = f v := by simp [upd, h]

structure TS where
  vis : Nat → Nat
  low : Nat → Nat
  comp : Nat → Nat
  ptr : Nat → Nat
  onS : Nat → Bool
  stack : List Nat
  gray : List Nat
  cnt : Nat
  comps : Nat

def TS.enter (s : TS) (j : Nat) : TS :=
  { s with vis := upd s.vis j (s.cnt + 1), low := upd s.low j (s.cnt + 1), onS := fun v => decide (v = j) || s.onS v, stack := s.stack ++ [j], gray := s.gray ++ [j], cnt := s.cnt + 1 }
def TS.bump (s : TS) (i : Nat) : TS := { s with ptr := upd s.ptr i (s.ptr i + 1) }
def TS.lower (s : TS) (i x : Nat) : TS := { s with low := upd s.low i (min (s.low i) x) }
def TS.pop (s : TS) (gs : List Nat) : TS := { s with gray := gs }
def TS.close (s : TS) (gs pre T : List Nat) : TS :=
  { s with gray := gs, stack := pre, onS := fun v => s.onS v && !decide (v ∈ T), comp := fun v => if v ∈ T then s.comps else s.comp v, comps := s.comps + 1 }

/-- The invariant; 'p': the nodes that a followed arc may lead to though they are not visited yet. -/
structure InvP (G : Gr) (p : Nat → Prop) (s : TS) : Prop where
  visLe : ∀ v, s.vis v ≤ s.cnt
  visInj : ∀ u v, s.vis u = s.vis v → s.vis u ≠ 0 → u = v
  visLt : ∀ v, s.vis v ≠ 0 → v < G.n
  count : cnt (fun v => decide (s.vis v ≠ 0)) G.n = s.cnt
  stackMem : ∀ v, v ∈ s.stack ↔ s.onS v = true
  onSVis : ∀ v, s.onS v = true → s.vis v ≠ 0
  stackSorted : s.stack.Pairwise (fun a b => s.vis a < s.vis b)
  grayMem : ∀ v, v ∈ s.gray → s.onS v = true
  graySorted : s.gray.Pairwise (fun a b => s.vis a < s.vis b)
  grayLen : s.gray.length ≤ s.cnt
  blackPtr : ∀ v, s.vis v ≠ 0 → v ∉ s.gray → s.ptr v = G.deg v
  ptrLe : ∀ v, s.ptr v ≤ G.deg v
  newPtr : ∀ v, s.vis v = 0 → s.ptr v = 0
  seen : ∀ v, s.vis v ≠ 0 → ∀ k, k < s.ptr v → s.vis (G.adj v k) ≠ 0 ∨ p (G.adj v k)
  closed : ∀ v, s.vis v ≠ 0 → s.onS v = false → ∀ k, k < G.deg v → s.vis (G.adj v k) ≠ 0 ∧ s.onS (G.adj v k) = false
  compLt : ∀ v, s.vis v ≠ 0 → s.onS v = false → s.comp v < s.comps
  compIff : ∀ u v, s.vis u ≠ 0 → s.onS u = false → s.vis v ≠ 0 → s.onS v = false → (s.comp u = s.comp v ↔ G.Reach u v ∧ G.Reach v u)
  compsLe : s.comps + s.stack.length ≤ s.cnt
  down : ∀ g, g ∈ s.gray → ∀ u, s.onS u = true → s.vis g ≤ s.vis u → G.Reach g u
  lowHit : ∀ v, s.onS v = true → ∃ x, s.onS x = true ∧ s.vis x = s.low v ∧ G.Reach v x
  lowLe : ∀ v, s.onS v = true → s.low v ≤ s.vis v
  lowLt : ∀ v, s.onS v = true → v ∉ s.gray → s.low v < s.vis v
  lowUp : ∀ g, g ∈ s.gray → ∀ u, s.onS u = true → u ∉ s.gray → s.vis g < s.vis u → (∀ h, h ∈ s.gray → s.vis h ≤ s.vis g ∨ s.vis u < s.vis h) → s.low g ≤ s.low u
  lowArc : ∀ v, s.onS v = true → ∀ k, k < s.ptr v → s.onS (G.adj v k) = true → s.low v ≤ s.vis (G.adj v k)
  base : ∀ u, s.onS u = true → ∃ g, g ∈ s.gray ∧ s.vis g ≤ s.vis u

def Inv (G : Gr) (s : TS) : Prop := InvP G (fun _ => False) s

theorem inv_bump {G : Gr} {s : TS} (h : Inv G s) {i : Nat} (hi : i ∈ s.gray) (hd : s.ptr i < G.deg i)
    (hl : s.onS (G.adj i (s.ptr i)) = true → s.low i ≤ s.vis (G.adj i (s.ptr i))) : InvP G (fun x => x = G.adj i (s.ptr i)) (s.bump i) where
  visLe := h.visLe
  visInj := h.visInj
  visLt := h.visLt
  count := h.count
  stackMem := h.stackMem
  onSVis := h.onSVis
  stackSorted := h.stackSorted
  grayMem := h.grayMem
  graySorted := h.graySorted
  grayLen := h.grayLen
  blackPtr := fun v hv hg => by
    show upd s.ptr i (s.ptr i + 1) v = G.deg v
    rw [upd_ne _ _ (fun e => hg (by subst e; exact hi))]
    exact h.blackPtr v hv hg
  ptrLe := fun v => by
    show upd s.ptr i (s.ptr i + 1) v ≤ G.deg v
    by_cases e : v = i
    · subst e; rw [upd_same]; omega
    · rw [upd_ne _ _ e]; exact h.ptrLe v
  newPtr := fun v hv => by
    show upd s.ptr i (s.ptr i + 1) v = 0
    have : v ≠ i := fun e => by subst e; exact h.onSVis v (h.grayMem v hi) hv
    rw [upd_ne _ _ this]; exact h.newPtr v hv
  seen := fun v hv k hk => by
    have hk' : k < upd s.ptr i (s.ptr i + 1) v := hk
    by_cases e : v = i
    · subst e
      rw [upd_same] at hk'
      by_cases e2 : k = s.ptr v
      · subst e2; exact .inr rfl
      · exact .inl ((h.seen v hv k (by omega)).resolve_right id)
    · rw [upd_ne _ _ e] at hk'
      exact .inl ((h.seen v hv k hk').resolve_right id)
  closed := h.closed
  compLt := h.compLt
  compIff := h.compIff
  compsLe := h.compsLe
  down := h.down
  lowHit := h.lowHit
  lowLe := h.lowLe
  lowLt := h.lowLt
  lowUp := h.lowUp
  lowArc := fun v hv k hk ho => by
    have hk' : k < upd s.ptr i (s.ptr i + 1) v := hk
    by_cases e : v = i
    · subst e
      rw [upd_same] at hk'
      by_cases e2 : k = s.ptr v
      · subst e2; exact hl ho
      · exact h.lowArc v hv k (by omega) ho
    · rw [upd_ne _ _ e] at hk'
      exact h.lowArc v hv k hk' ho
  base := h.base

/-- The pending node turns out to be visited. -/
theorem inv_settle {G : Gr} {s : TS} {j : Nat} (h : InvP G (fun x => x = j) s) (hj : s.vis j ≠ 0) : Inv G s :=
  { h with seen := fun v hv k hk => .inl ((h.seen v hv k hk).elim id (fun e => by rw [e]; exact hj)) }

/-- A gray node's low is lowered to the number of a node on the stack that it reaches. -/
theorem inv_lower {G : Gr} {p : Nat → Prop} {s : TS} (h : InvP G p s) {i y : Nat} (hi : i ∈ s.gray) (hy : s.onS y = true) (hr : G.Reach i y) : InvP G p (s.lower i (s.vis y)) where
  visLe := h.visLe
  visInj := h.visInj
  visLt := h.visLt
  count := h.count
  stackMem := h.stackMem
  onSVis := h.onSVis
  stackSorted := h.stackSorted
  grayMem := h.grayMem
  graySorted := h.graySorted
  grayLen := h.grayLen
  blackPtr := h.blackPtr
  ptrLe := h.ptrLe
  newPtr := h.newPtr
  seen := h.seen
  closed := h.closed
  compLt := h.compLt
  compIff := h.compIff
  compsLe := h.compsLe
  down := h.down
  lowHit := fun v hv => by
    show ∃ x, s.onS x = true ∧ s.vis x = upd s.low i (min (s.low i) (s.vis y)) v ∧ G.Reach v x
    by_cases e : v = i
    · subst e
      rw [upd_same]
      rcases Nat.le_total (s.low v) (s.vis y) with hle | hle
      · rw [Nat.min_eq_left hle]; exact h.lowHit v hv
      · rw [Nat.min_eq_right hle]; exact ⟨y, hy, rfl, hr⟩
    · rw [upd_ne _ _ e]; exact h.lowHit v hv
  lowLe := fun v hv => by
    show upd s.low i (min (s.low i) (s.vis y)) v ≤ s.vis v
    by_cases e : v = i
    · subst e
      rw [upd_same]
      have := h.lowLe v hv
      omega
    · rw [upd_ne _ _ e]; exact h.lowLe v hv
  lowLt := fun v hv hg => by
    show upd s.low i (min (s.low i) (s.vis y)) v < s.vis v
    rw [upd_ne _ _ (fun e => hg (by subst e; exact hi))]
    exact h.lowLt v hv hg
  lowUp := fun g hg u hu hn hlt hall => by
    show upd s.low i (min (s.low i) (s.vis y)) g ≤ upd s.low i (min (s.low i) (s.vis y)) u
    have h0 := h.lowUp g hg u hu hn hlt hall
    rw [upd_ne _ _ (fun e : u = i => hn (by subst e; exact hi))]
    by_cases e : g = i
    · subst e; rw [upd_same]; omega
    · rw [upd_ne _ _ e]; exact h0
  lowArc := fun v hv k hk ho => by
    show upd s.low i (min (s.low i) (s.vis y)) v ≤ s.vis (G.adj v k)
    have h0 := h.lowArc v hv k hk ho
    by_cases e : v = i
    · subst e; rw [upd_same]; omega
    · rw [upd_ne _ _ e]; exact h0
  base := h.base

theorem pw_append_one {r : Nat → Nat → Prop} {l : List Nat} {j : Nat} (h : l.Pairwise r) (hj : ∀ a, a ∈ l → r a j) : (l ++ [j]).Pairwise r := by
  rw [List.pairwise_append]
  refine ⟨h, List.pairwise_singleton _ _, fun a ha b hb => ?_⟩
  simp at hb
  subst hb
  exact hj a ha

theorem inv_enter {G : Gr} {s : TS} {j : Nat} (h : InvP G (fun x => x = j) s) (hj : s.vis j = 0) (hn : j < G.n) (hr : ∀ g, g ∈ s.gray → G.Reach g j) : Inv G (s.enter j) := by
  have hoj : s.onS j = false := by
    cases e : s.onS j with
    | false => rfl
    | true => exact absurd hj (h.onSVis j e)
  have hne : ∀ v, s.onS v = true → v ≠ j := fun v hv e => by subst e; rw [hoj] at hv; cases hv
  have hns : j ∉ s.stack := fun hm => by have := (h.stackMem j).1 hm; rw [hoj] at this; cases this
  have hng : j ∉ s.gray := fun hm => by have := h.grayMem j hm; rw [hoj] at this; cases this
  have hon : ∀ v, (s.enter j).onS v = true ↔ v = j ∨ s.onS v = true := fun v => by
    show (decide (v = j) || s.onS v) = true ↔ _
    simp
  have hvis : ∀ v, (s.enter j).vis v = upd s.vis j (s.cnt + 1) v := fun v => rfl
  have hlow : ∀ v, (s.enter j).low v = upd s.low j (s.cnt + 1) v := fun v => rfl
  have hnz : ∀ v, (s.enter j).vis v ≠ 0 → v = j ∨ s.vis v ≠ 0 := fun v hv => by
    by_cases e : v = j
    · exact .inl e
    · rw [hvis, upd_ne _ _ e] at hv; exact .inr hv
  have hnz' : ∀ v, s.vis v ≠ 0 → (s.enter j).vis v = s.vis v := fun v hv => by
    rw [hvis, upd_ne _ _ (fun e => by subst e; exact hv hj)]
  have hj1 : (s.enter j).vis j = s.cnt + 1 := by rw [hvis, upd_same]
  have holdv : ∀ v, s.onS v = true → (s.enter j).vis v = s.vis v := fun v hv => hnz' v (h.onSVis v hv)
  have holdl : ∀ v, s.onS v = true → (s.enter j).low v = s.low v := fun v hv => by rw [hlow, upd_ne _ _ (hne v hv)]
  have hgr : ∀ g, g ∈ (s.enter j).gray ↔ g ∈ s.gray ∨ g = j := fun g => by
    show g ∈ s.gray ++ [j] ↔ _
    simp
  have honf : ∀ v, (s.enter j).onS v = false → v ≠ j ∧ s.onS v = false := fun v hv => by
    have : (decide (v = j) || s.onS v) = false := hv
    simp at this
    exact this
  exact {
    visLe := fun v => by
      rw [hvis]
      show upd s.vis j (s.cnt + 1) v ≤ s.cnt + 1
      by_cases e : v = j
      · subst e; rw [upd_same]; omega
      · rw [upd_ne _ _ e]; have := h.visLe v; omega
    visInj := fun u v huv hu => by
      rw [hvis, hvis] at huv
      rw [hvis] at hu
      by_cases eu : u = j
      · by_cases ev : v = j
        · rw [eu, ev]
        · rw [eu, upd_same, upd_ne _ _ ev] at huv
          have := h.visLe v; omega
      · by_cases ev : v = j
        · rw [ev, upd_same, upd_ne _ _ eu] at huv
          have := h.visLe u; omega
        · rw [upd_ne _ _ eu] at hu huv
          rw [upd_ne _ _ ev] at huv
          exact h.visInj u v huv hu
    visLt := fun v hv => (hnz v hv).elim (fun e => e ▸ hn) (h.visLt v)
    count := by
      show cnt (fun v => decide (upd s.vis j (s.cnt + 1) v ≠ 0)) G.n = s.cnt + 1
      rw [cnt_add (p := fun v => decide (s.vis v ≠ 0)) (x := j) (by simp [hj]) (by simp [upd_same]) (fun i hi => by simp [upd_ne _ _ hi]), h.count, if_pos hn]
    stackMem := fun v => by
      rw [hon]
      show v ∈ s.stack ++ [j] ↔ _
      rw [List.mem_append, h.stackMem]
      simp [or_comm]
    onSVis := fun v hv => by
      rcases (hon v).1 hv with e | e
      · subst e; rw [hj1]; omega
      · rw [holdv v e]; exact h.onSVis v e
    stackSorted := by
      show (s.stack ++ [j]).Pairwise (fun a b => (s.enter j).vis a < (s.enter j).vis b)
      refine pw_append_one ?_ (fun a ha => ?_)
      · refine List.Pairwise.imp_of_mem ?_ h.stackSorted
        intro a b ha hb hab
        rw [holdv a ((h.stackMem a).1 ha), holdv b ((h.stackMem b).1 hb)]
        exact hab
      · rw [holdv a ((h.stackMem a).1 ha), hj1]
        have := h.visLe a; omega
    grayMem := fun v hv => (hon v).2 (((hgr v).1 hv).elim (fun e => .inr (h.grayMem v e)) .inl)
    graySorted := by
      show (s.gray ++ [j]).Pairwise (fun a b => (s.enter j).vis a < (s.enter j).vis b)
      refine pw_append_one ?_ (fun a ha => ?_)
      · refine List.Pairwise.imp_of_mem ?_ h.graySorted
        intro a b ha hb hab
        rw [holdv a (h.grayMem a ha), holdv b (h.grayMem b hb)]
        exact hab
      · rw [holdv a (h.grayMem a ha), hj1]
        have := h.visLe a; omega
    grayLen := by
      show (s.gray ++ [j]).length ≤ s.cnt + 1
      have := h.grayLen
      simp
      omega
    blackPtr := fun v hv hg => by
      have hv' := hnz v hv
      have hg' : v ∉ s.gray ∧ v ≠ j := ⟨fun h' => hg ((hgr v).2 (.inl h')), fun h' => hg ((hgr v).2 (.inr h'))⟩
      exact h.blackPtr v (hv'.resolve_left hg'.2) hg'.1
    ptrLe := h.ptrLe
    newPtr := fun v hv => by
      rw [hvis] at hv
      by_cases e : v = j
      · subst e; rw [upd_same] at hv; omega
      · rw [upd_ne _ _ e] at hv; exact h.newPtr v hv
    seen := fun v hv k hk => by
      left
      have hk' : k < s.ptr v := hk
      rcases hnz v hv with e | e
      · subst e; rw [h.newPtr v hj] at hk'; omega
      · rcases h.seen v e k hk' with h1 | h1
        · rw [hnz' _ h1]; exact h1
        · rw [h1, hj1]; omega
    closed := fun v hv ho k hk => by
      obtain ⟨e, ho'⟩ := honf v ho
      have hv' := (hnz v hv).resolve_left e
      obtain ⟨h1, h2⟩ := h.closed v hv' ho' k hk
      refine ⟨by rw [hnz' _ h1]; exact h1, ?_⟩
      show (decide (G.adj v k = j) || s.onS (G.adj v k)) = false
      have : G.adj v k ≠ j := fun e2 => h1 (by rw [e2]; exact hj)
      simp [this, h2]
    compLt := fun v hv ho => by
      obtain ⟨e, ho'⟩ := honf v ho
      exact h.compLt v ((hnz v hv).resolve_left e) ho'
    compIff := fun u v hu hou hv hov => by
      obtain ⟨eu, hou'⟩ := honf u hou
      obtain ⟨ev, hov'⟩ := honf v hov
      exact h.compIff u v ((hnz u hu).resolve_left eu) hou' ((hnz v hv).resolve_left ev) hov'
    compsLe := by
      show s.comps + (s.stack ++ [j]).length ≤ s.cnt + 1
      have := h.compsLe
      simp
      omega
    down := fun g hg u hu hle => by
      rcases (hgr g).1 hg with e | e
      · rcases (hon u).1 hu with e2 | e2
        · subst e2; exact hr g e
        · rw [holdv g (h.grayMem g e), holdv u e2] at hle
          exact h.down g e u e2 hle
      · subst e
        rcases (hon u).1 hu with e2 | e2
        · subst e2; exact Gr.Reach.refl _
        · rw [hj1, holdv u e2] at hle
          have := h.visLe u; omega
    lowHit := fun v hv => by
      rcases (hon v).1 hv with e | e
      · subst e
        exact ⟨v, hv, by rw [hj1, hlow, upd_same], Gr.Reach.refl _⟩
      · obtain ⟨x, hx, h1, h2⟩ := h.lowHit v e
        exact ⟨x, (hon x).2 (.inr hx), by rw [holdv x hx, holdl v e]; exact h1, h2⟩
    lowLe := fun v hv => by
      rcases (hon v).1 hv with e | e
      · subst e; rw [hj1, hlow, upd_same]; omega
      · rw [holdl v e, holdv v e]; exact h.lowLe v e
    lowLt := fun v hv hg => by
      have hg' : v ∉ s.gray ∧ v ≠ j := ⟨fun h' => hg ((hgr v).2 (.inl h')), fun h' => hg ((hgr v).2 (.inr h'))⟩
      have e := ((hon v).1 hv).resolve_left hg'.2
      rw [holdl v e, holdv v e]; exact h.lowLt v e hg'.1
    lowUp := fun g hg u hu hnu hlt hall => by
      have hnu' : u ∉ s.gray ∧ u ≠ j := ⟨fun h' => hnu ((hgr u).2 (.inl h')), fun h' => hnu ((hgr u).2 (.inr h'))⟩
      have eu := ((hon u).1 hu).resolve_left hnu'.2
      rcases (hgr g).1 hg with e | e
      · rw [holdv g (h.grayMem g e), holdv u eu] at hlt
        rw [holdl g (h.grayMem g e), holdl u eu]
        refine h.lowUp g e u eu hnu'.1 hlt (fun x hx => ?_)
        have := hall x ((hgr x).2 (.inl hx))
        rw [holdv g (h.grayMem g e), holdv u eu, holdv x (h.grayMem x hx)] at this
        exact this
      · subst e
        rw [hj1, holdv u eu] at hlt
        have := h.visLe u; omega
    lowArc := fun v hv k hk ho => by
      have hk' : k < s.ptr v := hk
      rcases (hon v).1 hv with e | e
      · subst e; rw [h.newPtr v hj] at hk'; omega
      · rw [holdl v e]
        rcases (hon _).1 ho with e2 | e2
        · rw [e2, hj1]
          have := h.lowLe v e
          have := h.visLe v
          omega
        · rw [holdv _ e2]; exact h.lowArc v e k hk' e2
    base := fun u hu => by
      rcases (hon u).1 hu with e | e
      · subst e; exact ⟨u, (hgr u).2 (.inr rfl), Nat.le_refl _⟩
      · obtain ⟨g, hg, hle⟩ := h.base u e
        exact ⟨g, (hgr g).2 (.inl hg), by rw [holdv g (h.grayMem g hg), holdv u e]; exact hle⟩ }

end Go.Proofs.Qxb6601860a
