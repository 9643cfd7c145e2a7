import Derived.Test.Qxb6601860aGa
namespace Go.Proofs.Qxb6601860a
set_option linter.unusedVariables false

/-- The last gray node has the greatest number. -/
theorem gray_last {G : Gr} {p : Nat → Prop} {s : TS} (h : InvP G p s) {gs : List Nat} {i : Nat} (hg : s.gray = gs ++ [i]) : ∀ g, g ∈ gs → s.vis g < s.vis i := by
  intro g hgm
  have := h.graySorted
  rw [hg, List.pairwise_append] at this
  exact this.2.2 g hgm i (by simp)

theorem gray_mem {s : TS} {gs : List Nat} {i : Nat} (hg : s.gray = gs ++ [i]) (x : Nat) : x ∈ s.gray ↔ x ∈ gs ∨ x = i := by rw [hg]; simp

/-- A node is done and its component is not: it stays on the stack, no longer gray. -/
theorem inv_pop {G : Gr} {s : TS} (h : Inv G s) {gs : List Nat} {i c : Nat} (hg : s.gray = gs ++ [c] ++ [i]) (hp : s.ptr i = G.deg i) (hl : s.low i < s.vis i) (hc : s.low c ≤ s.low i) : Inv G (s.pop (gs ++ [c])) := by
  have hgm := gray_mem hg
  have hlast := gray_last h hg
  have hi : i ∈ s.gray := (hgm i).2 (.inr rfl)
  have hcg : c ∈ s.gray := (hgm c).2 (.inl (by simp))
  have hci : s.vis c < s.vis i := hlast c (by simp)
  have hmax : ∀ x, x ∈ gs ++ [c] → s.vis x ≤ s.vis c := by
    intro x hx
    have hs := h.graySorted
    rw [hg, List.pairwise_append, List.pairwise_append] at hs
    rcases List.mem_append.1 hx with hx | hx
    · exact Nat.le_of_lt (hs.1.2.2 x hx c (by simp))
    · simp at hx; subst hx; exact Nat.le_refl _
  have hni : i ∉ gs ++ [c] := fun hm => by have := hlast i hm; omega
  exact { h with
    grayMem := fun v hv => h.grayMem v ((hgm v).2 (.inl hv))
    graySorted := by
      have hs := h.graySorted
      rw [hg, List.pairwise_append] at hs
      exact hs.1
    grayLen := by
      have := h.grayLen
      rw [hg] at this
      show (gs ++ [c]).length ≤ s.cnt
      simp at this ⊢
      omega
    blackPtr := fun v hv hn => by
      by_cases e : v = i
      · subst e; exact hp
      · exact h.blackPtr v hv (fun hm => ((hgm v).1 hm).elim hn e)
    down := fun g hgg u hu hle => h.down g ((hgm g).2 (.inl hgg)) u hu hle
    lowLt := fun v hv hn => by
      by_cases e : v = i
      · subst e; exact hl
      · exact h.lowLt v hv (fun hm => ((hgm v).1 hm).elim hn e)
    lowUp := fun g hgg u hu hn hlt0 hall0 => by
      have hall : ∀ x, x ∈ gs ++ [c] → s.vis x ≤ s.vis g ∨ s.vis u < s.vis x := hall0
      have hlt : s.vis g < s.vis u := hlt0
      have hgv := hmax g hgg
      by_cases e : u = i
      · have hcle : s.vis c ≤ s.vis g := by
          rcases hall c (by show c ∈ gs ++ [c]; simp) with h1 | h1
          · exact h1
          · rw [e] at h1; omega
        have : g = c := h.visInj g c (by omega) (h.onSVis g (h.grayMem g ((hgm g).2 (.inl hgg))))
        rw [this, e]; exact hc
      · have hnu : u ∉ s.gray := fun hm => ((hgm u).1 hm).elim hn e
        rcases Nat.lt_or_ge (s.vis u) (s.vis i) with h1 | h1
        · exact h.lowUp g ((hgm g).2 (.inl hgg)) u hu hnu hlt (fun x hx => ((hgm x).1 hx).elim (fun hx => hall x hx) (fun hx => .inr (by rw [hx]; exact h1)))
        · have hne : s.vis i ≠ s.vis u := fun e2 => e (h.visInj u i e2.symm (h.onSVis u hu))
          have h2 := h.lowUp i hi u hu hnu (by omega) (fun x hx => .inl (((hgm x).1 hx).elim (fun hx => Nat.le_of_lt (hlast x hx)) (fun hx => by rw [hx]; exact Nat.le_refl _)))
          have hcle : s.vis c ≤ s.vis g := by
            rcases hall c (by show c ∈ gs ++ [c]; simp) with h3 | h3
            · exact h3
            · omega
          have : g = c := h.visInj g c (by omega) (h.onSVis g (h.grayMem g ((hgm g).2 (.inl hgg))))
          show s.low g ≤ s.low u
          rw [this]; omega
    base := fun u hu => by
      obtain ⟨g, hgg, hle⟩ := h.base u hu
      rcases (hgm g).1 hgg with e | e
      · exact ⟨g, e, hle⟩
      · exact ⟨c, by show c ∈ gs ++ [c]; simp, by show s.vis c ≤ s.vis u; rw [e] at hle; omega⟩ }

/-- The last gray node alone: its low is its own number. -/
theorem low_root {G : Gr} {s : TS} (h : Inv G s) {i : Nat} (hg : s.gray = [i]) : s.low i = s.vis i := by
  have hi : s.onS i = true := h.grayMem i (by rw [hg]; simp)
  obtain ⟨x, hx, h1, _⟩ := h.lowHit i hi
  obtain ⟨g, hgg, hle⟩ := h.base x hx
  rw [hg] at hgg
  simp at hgg
  subst hgg
  have := h.lowLe g hi
  omega

/-- What lies on the stack from i on. -/
theorem stack_from {G : Gr} {s : TS} (h : Inv G s) {pre post : List Nat} {i : Nat} (hs : s.stack = pre ++ i :: post) (v : Nat) : v ∈ i :: post ↔ s.onS v = true ∧ s.vis i ≤ s.vis v := by
  have hp := h.stackSorted
  rw [hs, List.pairwise_append] at hp
  obtain ⟨_, hp2, hp3⟩ := hp
  rw [List.pairwise_cons] at hp2
  constructor
  · intro hv
    refine ⟨(h.stackMem v).1 (by rw [hs]; exact List.mem_append_right _ hv), ?_⟩
    rcases List.mem_cons.1 hv with e | e
    · rw [e]; exact Nat.le_refl _
    · exact Nat.le_of_lt (hp2.1 v e)
  · rintro ⟨ho, hle⟩
    have hm := (h.stackMem v).2 ho
    rw [hs] at hm
    rcases List.mem_append.1 hm with e | e
    · have := hp3 v e i (by simp)
      omega
    · exact e

/-- A component is complete: all that lies on the stack from i on. -/
theorem inv_close {G : Gr} {s : TS} (h : Inv G s) {gs pre post : List Nat} {i : Nat} (hg : s.gray = gs ++ [i]) (hp : s.ptr i = G.deg i) (hl : s.low i = s.vis i) (hs : s.stack = pre ++ i :: post) :
    Inv G (s.close gs pre (i :: post)) := by
  have hgm := gray_mem hg
  have hlast := gray_last h hg
  have hT := stack_from h hs
  have hi : i ∈ s.gray := (hgm i).2 (.inr rfl)
  have hoi : s.onS i = true := h.grayMem i hi
  -- the nodes of T are not gray, but for i
  have hTg : ∀ v, v ∈ i :: post → v ≠ i → v ∉ s.gray := fun v hv e hm => by
    rcases (hgm v).1 hm with h1 | h1
    · have := hlast v h1
      have := ((hT v).1 hv).2
      omega
    · exact e h1
  have hTlow : ∀ v, v ∈ i :: post → s.vis i ≤ s.low v := fun v hv => by
    by_cases e : v = i
    · rw [e, hl]; exact Nat.le_refl _
    · have h1 := (hT v).1 hv
      have h2 : s.vis i ≠ s.vis v := fun e2 => e (h.visInj v i e2.symm (h.onSVis v h1.1))
      have := h.lowUp i hi v h1.1 (hTg v hv e) (by omega) (fun x hx => .inl (((hgm x).1 hx).elim (fun hx => Nat.le_of_lt (hlast x hx)) (fun hx => by rw [hx]; exact Nat.le_refl _)))
      omega
  have hTptr : ∀ v, v ∈ i :: post → s.ptr v = G.deg v := fun v hv => by
    by_cases e : v = i
    · rw [e]; exact hp
    · exact h.blackPtr v (h.onSVis v ((hT v).1 hv).1) (hTg v hv e)
  -- each of them reaches i
  have hTi : ∀ m v, s.vis v ≤ m → v ∈ i :: post → G.Reach v i := by
    intro m
    induction m with
    | zero => intro v hv hm; have := h.onSVis v ((hT v).1 hm).1; omega
    | succ m ih =>
      intro v hv hm
      by_cases e : v = i
      · rw [e]; exact Gr.Reach.refl _
      · obtain ⟨x, hx, h1, h2⟩ := h.lowHit v ((hT v).1 hm).1
        have h3 := h.lowLt v ((hT v).1 hm).1 (hTg v hm e)
        have h4 := hTlow v hm
        exact h2.trans (ih x (by omega) ((hT x).2 ⟨hx, by omega⟩))
  have hTr : ∀ u v, u ∈ i :: post → v ∈ i :: post → G.Reach u v := fun u v hu hv =>
    (hTi _ u (Nat.le_refl _) hu).trans (h.down i hi v ((hT v).1 hv).1 ((hT v).1 hv).2)
  have hon : ∀ v, (s.close gs pre (i :: post)).onS v = true ↔ s.onS v = true ∧ v ∉ i :: post := fun v => by
    show (s.onS v && !decide (v ∈ i :: post)) = true ↔ _
    rw [Bool.and_eq_true, Bool.not_eq_true', decide_eq_false_iff_not]
  have hon' : ∀ v, (s.close gs pre (i :: post)).onS v = true → s.onS v = true ∧ s.vis v < s.vis i := fun v hv => by
    obtain ⟨h1, h2⟩ := (hon v).1 hv
    refine ⟨h1, ?_⟩
    rcases Nat.lt_or_ge (s.vis v) (s.vis i) with h3 | h3
    · exact h3
    · exact absurd ((hT v).2 ⟨h1, h3⟩) h2
  have hon2 : ∀ v, s.onS v = true → s.vis v < s.vis i → (s.close gs pre (i :: post)).onS v = true := fun v h1 h2 => (hon v).2 ⟨h1, fun hm => by have := ((hT v).1 hm).2; omega⟩
  have honf : ∀ v, (s.close gs pre (i :: post)).onS v = false → s.onS v = false ∨ v ∈ i :: post := fun v hv => by
    by_cases h1 : v ∈ i :: post
    · exact .inr h1
    · refine .inl ?_
      cases h2 : s.onS v with
      | false => rfl
      | true => have := (hon v).2 ⟨h2, h1⟩; rw [hv] at this; cases this
  have hcl : ∀ v, s.vis v ≠ 0 → (s.close gs pre (i :: post)).onS v = false → ∀ k, k < G.deg v → s.vis (G.adj v k) ≠ 0 ∧ (s.close gs pre (i :: post)).onS (G.adj v k) = false := by
    intro v hv ho k hk
    rcases honf v ho with h1 | h1
    · obtain ⟨h2, h3⟩ := h.closed v hv h1 k hk
      refine ⟨h2, ?_⟩
      show (s.onS (G.adj v k) && !decide (G.adj v k ∈ i :: post)) = false
      rw [h3]; rfl
    · have hk' : k < s.ptr v := by rw [hTptr v h1]; exact hk
      have h2 := (h.seen v hv k hk').resolve_right id
      refine ⟨h2, ?_⟩
      cases h3 : (s.close gs pre (i :: post)).onS (G.adj v k) with
      | false => rfl
      | true =>
        obtain ⟨h4, h5⟩ := hon' _ h3
        have h6 := h.lowArc v ((hT v).1 h1).1 k hk' h4
        have h7 := hTlow v h1
        omega
  have hold : ∀ u, s.vis u ≠ 0 → s.onS u = false → ∀ v, G.Reach u v → s.onS v = false := fun u hu ho v hr =>
    (Gr.Reach.closed (S := fun x => s.vis x ≠ 0 ∧ s.onS x = false) (fun a b ⟨h1, h2⟩ ⟨k, hk, e⟩ => by rw [← e]; exact h.closed a h1 h2 k hk) ⟨hu, ho⟩ hr).2
  have hcomp : ∀ v, (s.close gs pre (i :: post)).comp v = if v ∈ i :: post then s.comps else s.comp v := fun v => rfl
  have hnotT : ∀ v, s.onS v = false → v ∉ i :: post := fun v hv hm => by have := ((hT v).1 hm).1; rw [hv] at this; cases this
  have hgv : ∀ g, g ∈ gs → s.vis g < s.vis i := hlast
  exact {
    visLe := h.visLe
    visInj := h.visInj
    visLt := h.visLt
    count := h.count
    stackMem := fun v => by
      rw [hon, hT]
      show v ∈ pre ↔ _
      have hsp := h.stackSorted
      rw [hs, List.pairwise_append] at hsp
      constructor
      · intro hv
        have h1 := (h.stackMem v).1 (by rw [hs]; exact List.mem_append_left _ hv)
        have h2 := hsp.2.2 v hv i (by simp)
        exact ⟨h1, fun ⟨_, h3⟩ => by omega⟩
      · rintro ⟨h1, h2⟩
        have hm := (h.stackMem v).2 h1
        rw [hs] at hm
        rcases List.mem_append.1 hm with e | e
        · exact e
        · exact absurd ((hT v).1 e) h2
    onSVis := fun v hv => h.onSVis v (hon' v hv).1
    stackSorted := by
      have hsp := h.stackSorted
      rw [hs, List.pairwise_append] at hsp
      exact hsp.1
    grayMem := fun v hv => hon2 v (h.grayMem v ((hgm v).2 (.inl hv))) (hgv v hv)
    graySorted := by
      have hsp := h.graySorted
      rw [hg, List.pairwise_append] at hsp
      exact hsp.1
    grayLen := by
      have := h.grayLen
      rw [hg] at this
      show gs.length ≤ s.cnt
      simp at this
      omega
    blackPtr := fun v hv hn => by
      by_cases e : v = i
      · rw [e]; exact hp
      · exact h.blackPtr v hv (fun hm => ((hgm v).1 hm).elim hn e)
    ptrLe := h.ptrLe
    newPtr := h.newPtr
    seen := h.seen
    closed := hcl
    compLt := fun v hv ho => by
      rw [hcomp]
      show _ < s.comps + 1
      rcases honf v ho with h1 | h1
      · rw [if_neg (hnotT v h1)]
        have := h.compLt v hv h1; omega
      · rw [if_pos h1]; omega
    compIff := fun u v hu hou hv hov => by
      rw [hcomp, hcomp]
      rcases honf u hou with h1 | h1
      · rw [if_neg (hnotT u h1)]
        rcases honf v hov with h2 | h2
        · rw [if_neg (hnotT v h2)]
          exact h.compIff u v hu h1 hv h2
        · rw [if_pos h2]
          have := h.compLt u hu h1
          constructor
          · intro e; omega
          · rintro ⟨h3, _⟩
            have := hold u hu h1 v h3
            have := ((hT v).1 h2).1
            simp_all
      · rw [if_pos h1]
        rcases honf v hov with h2 | h2
        · rw [if_neg (hnotT v h2)]
          have := h.compLt v hv h2
          constructor
          · intro e; omega
          · rintro ⟨_, h3⟩
            have := hold v hv h2 u h3
            have := ((hT u).1 h1).1
            simp_all
        · rw [if_pos h2]
          exact ⟨fun _ => ⟨hTr u v h1 h2, hTr v u h2 h1⟩, fun _ => rfl⟩
    compsLe := by
      have := h.compsLe
      rw [hs] at this
      show s.comps + 1 + pre.length ≤ s.cnt
      simp at this
      omega
    down := fun g hgg u hu hle => h.down g ((hgm g).2 (.inl hgg)) u (hon' u hu).1 hle
    lowHit := fun v hv => by
      obtain ⟨h1, h2⟩ := hon' v hv
      obtain ⟨x, hx, h3, h4⟩ := h.lowHit v h1
      have := h.lowLe v h1
      exact ⟨x, hon2 x hx (by omega), h3, h4⟩
    lowLe := fun v hv => h.lowLe v (hon' v hv).1
    lowLt := fun v hv hn => h.lowLt v (hon' v hv).1 (fun hm => ((hgm v).1 hm).elim hn (fun e => by have := (hon' v hv).2; rw [e] at this; omega))
    lowUp := fun g hgg u hu hn hlt hall => h.lowUp g ((hgm g).2 (.inl hgg)) u (hon' u hu).1
      (fun hm => ((hgm u).1 hm).elim hn (fun e => by have := (hon' u hu).2; rw [e] at this; omega)) hlt
      (fun x hx => ((hgm x).1 hx).elim (fun hx => hall x hx) (fun hx => .inr (by rw [hx]; exact (hon' u hu).2)))
    lowArc := fun v hv k hk ho => h.lowArc v (hon' v hv).1 k hk (hon' _ ho).1
    base := fun u hu => by
      obtain ⟨g, hgg, hle⟩ := h.base u (hon' u hu).1
      rcases (hgm g).1 hgg with e | e
      · exact ⟨g, e, hle⟩
      · have := (hon' u hu).2; rw [e] at hle; omega }

/-- The beginning. -/
def TS.init : TS := { vis := fun _ => 0, low := fun _ => 0, comp := fun _ => 0, ptr := fun _ => 0, onS := fun _ => false, stack := [], gray := [], cnt := 0, comps := 0 }

theorem inv_init (G : Gr) : Inv G TS.init where
  visLe := fun v => Nat.le_refl _
  visInj := fun u v _ h => absurd rfl h
  visLt := fun v h => absurd rfl h
  count := cnt_zero (fun i _ => rfl)
  stackMem := fun v => by simp [TS.init]
  onSVis := fun v h => by cases h
  stackSorted := List.Pairwise.nil
  grayMem := fun v h => by cases h
  graySorted := List.Pairwise.nil
  grayLen := Nat.le_refl _
  blackPtr := fun v h => absurd rfl h
  ptrLe := fun v => Nat.zero_le _
  newPtr := fun v _ => rfl
  seen := fun v h => absurd rfl h
  closed := fun v h => absurd rfl h
  compLt := fun v h => absurd rfl h
  compIff := fun u v h => absurd rfl h
  compsLe := Nat.le_refl _
  down := fun g h => by cases h
  lowHit := fun v h => by cases h
  lowLe := fun v h => by cases h
  lowLt := fun v h => by cases h
  lowUp := fun g h => by cases h
  lowArc := fun v h => by cases h
  base := fun u h => by cases h

/-- What Components gives: the strongly connected components. -/
structure Comps (G : Gr) (comp : Nat → Nat) : Prop where
  lt : ∀ v, v < G.n → comp v < G.n
  iff : ∀ u v, u < G.n → v < G.n → (comp u = comp v ↔ G.Reach u v ∧ G.Reach v u)

theorem inv_final {G : Gr} {s : TS} (h : Inv G s) (hg : s.gray = []) (hall : ∀ v, v < G.n → s.vis v ≠ 0) : Comps G s.comp := by
  have ho : ∀ v, s.onS v = false := fun v => by
    cases e : s.onS v with
    | false => rfl
    | true =>
      obtain ⟨g, hm, _⟩ := h.base v e
      rw [hg] at hm; cases hm
  refine ⟨fun v hv => ?_, fun u v hu hv => h.compIff u v (hall u hu) (ho u) (hall v hv) (ho v)⟩
  have h1 := h.compLt v (hall v hv) (ho v)
  have h2 := h.compsLe
  have h3 := h.count
  have h4 := cnt_le (fun v => decide (s.vis v ≠ 0)) G.n
  omega

/-- What is left to do. -/
def TS.todo (G : Gr) (s : TS) : Nat := 2 * (G.n - s.cnt) + (sumTo G.deg G.n - sumTo s.ptr G.n) + s.gray.length

theorem cnt_le_n {G : Gr} {p : Nat → Prop} {s : TS} (h : InvP G p s) : s.cnt ≤ G.n := by
  have h3 := h.count
  have h4 := cnt_le (fun v => decide (s.vis v ≠ 0)) G.n
  omega
theorem cnt_lt_n {G : Gr} {p : Nat → Prop} {s : TS} (h : InvP G p s) {j : Nat} (hj : j < G.n) (h0 : s.vis j = 0) : s.cnt < G.n := by
  have h3 := h.count
  have h4 := cnt_lt_of (p := fun v => decide (s.vis v ≠ 0)) hj (by simp [h0])
  omega
theorem todo_bump {G : Gr} {s : TS} (h : Inv G s) {i : Nat} (hi : i < G.n) (hd : s.ptr i < G.deg i) : (s.bump i).todo G + 1 = s.todo G := by
  have h1 : sumTo (s.bump i).ptr G.n = sumTo s.ptr G.n + 1 := by
    show sumTo (upd s.ptr i (s.ptr i + 1)) G.n = _
    rw [sumTo_succ_at (f := s.ptr) (x := i) (upd_same _ _ _) (fun k hk => upd_ne _ _ hk), if_pos hi]
  have h2 : sumTo (s.bump i).ptr G.n ≤ sumTo G.deg G.n := sumTo_le (fun v _ => by
    show upd s.ptr i (s.ptr i + 1) v ≤ G.deg v
    by_cases e : v = i
    · subst e; rw [upd_same]; omega
    · rw [upd_ne _ _ e]; exact h.ptrLe v)
  unfold TS.todo
  have e1 : (s.bump i).cnt = s.cnt := rfl
  have e2 : (s.bump i).gray = s.gray := rfl
  rw [e1, e2, h1]
  omega
theorem todo_enter {G : Gr} {s : TS} {j : Nat} (hc : s.cnt < G.n) : (s.enter j).todo G + 1 = s.todo G := by
  unfold TS.todo
  have e1 : (s.enter j).cnt = s.cnt + 1 := rfl
  have e2 : (s.enter j).gray = s.gray ++ [j] := rfl
  have e3 : (s.enter j).ptr = s.ptr := rfl
  rw [e1, e2, e3]
  simp
  omega

end Go.Proofs.Qxb6601860a
