import Derived.Test.Qxb6601860aRa
namespace Go.Proofs.Qxb6601860a
set_option linter.unusedVariables false

/-! ### Distances to start: ds x = 0: not reached; else the distance plus one -/
structure Dist (G : Gr) (start : Nat) (ds : Nat → Nat) : Prop where
  st : ds start = 1
  one : ∀ x, x < G.n → ds x = 1 → x = start
  edge : ∀ y x, y < G.n → x < G.n → G.Edge y x → ds x ≠ 0 → ds y ≠ 0 ∧ ds y ≤ ds x + 1
  succ : ∀ x, x < G.n → ds x ≠ 0 → x ≠ start → ∃ y, y < G.n ∧ G.Edge x y ∧ ds y ≠ 0 ∧ ds x = ds y + 1

theorem Dist.path_le {G : Gr} (hG : G.Ok) {start : Nat} {ds : Nat → Nat} (h : Dist G start ds) : ∀ {l : List Nat} {v : Nat}, v < G.n → G.Path v l start → ds v ≠ 0 ∧ ds v ≤ l.length + 1
  | [], v, hv, hp => by
    have e : v = start := hp
    subst e
    rw [h.st]; simp
  | x :: l, v, hv, hp => by
    have hx : x < G.n := hp.1.lt hG hv
    have ih := Dist.path_le hG h hx hp.2
    have := h.edge v x hv hx hp.1 ih.1
    exact ⟨this.1, by simp; omega⟩

/-- The greedy way from c to a node beside start. -/
def Greedy (G : Gr) (ds : Nat → Nat) : Nat → List Nat → Prop
  | c, [] => ds c = 2
  | c, y :: T => G.Edge c y ∧ ds c = ds y + 1 ∧ (∀ x, G.Edge c x → ds c = ds x + 1 → y ≤ x) ∧ Greedy G ds y T

section
variable {G : Gr} {start : Nat} {ds : Nat → Nat}

theorem Greedy.len : ∀ {T : List Nat} {c : Nat}, Greedy G ds c T → ds c = T.length + 2
  | [], c, h => h
  | y :: T, c, h => by
    have := Greedy.len h.2.2.2
    have h2 := h.2.1
    simp; omega

theorem Greedy.closed (hG : G.Ok) (hD : Dist G start ds) : ∀ {T : List Nat} {c : Nat}, c < G.n → Greedy G ds c T → ∃ v, G.Path c T v ∧ G.Edge v start
  | [], c, hc, h => by
    have h2 : ds c = 2 := h
    have hne : c ≠ start := fun e => by rw [e, hD.st] at h2; omega
    obtain ⟨y, hy, he, _, hd⟩ := hD.succ c hc (by omega) hne
    have : y = start := hD.one y hy (by omega)
    subst this
    exact ⟨c, rfl, he⟩
  | y :: T, c, hc, h => by
    obtain ⟨v, hv, he⟩ := Greedy.closed hG hD (h.1.lt hG hc) h.2.2.2
    exact ⟨v, ⟨h.1, hv⟩, he⟩

theorem path_snoc {l : List Nat} {c v : Nat} (h : G.Path c l v) (he : G.Edge v start) : G.Path c (l ++ [start]) start := h.app ⟨he, rfl⟩

theorem Greedy.least (hG : G.Ok) (hD : Dist G start ds) : ∀ {T : List Nat} {c : Nat}, c < G.n → Greedy G ds c T → ∀ {l : List Nat} {v : Nat}, G.Path c l v → G.Edge v start → l.length = T.length → l = T ∨ LexLt T l
  | [], c, hc, h, l, v, hp, he, hl => .inl (List.eq_nil_of_length_eq_zero hl)
  | y :: T, c, hc, h, [], v, hp, he, hl => by simp at hl
  | y :: T, c, hc, h, x :: l, v, hp, he, hl => by
    obtain ⟨h1, h2, h3, h4⟩ := h
    have hx : x < G.n := hp.1.lt hG hc
    have hll : l.length = T.length := by simpa using hl
    have hdx := hD.path_le hG hx (path_snoc hp.2 he)
    have hdc := hD.edge c x hc hx hp.1 hdx.1
    have hdy := h4.len
    have hle : ds x ≤ l.length + 2 := by have := hdx.2; simp at this; omega
    have hyx := h3 x hp.1 (by omega)
    by_cases e : y = x
    · subst e
      rcases Greedy.least hG hD hx h4 hp.2 he hll with e2 | e2
      · exact .inl (by rw [e2])
      · exact .inr (.inr ⟨rfl, e2⟩)
    · exact .inr (.inl (by omega))

/-- The first step of the cycle. -/
structure Best (G : Gr) (start : Nat) (ds : Nat → Nat) (c : Nat) : Prop where
  edge : G.Edge start c
  ne : ds c ≠ 0
  best : ∀ x, G.Edge start x → ds x ≠ 0 → ds c < ds x ∨ (ds c = ds x ∧ c ≤ x)

theorem Best.nil (h : Best G start ds start) : Closed G start [] ∧ ∀ P, Closed G start P → SLE [] P :=
  ⟨⟨start, rfl, h.edge⟩, fun P _ => by simpa using SLE.pre [] P⟩

theorem Best.cons (hG : G.Ok) (hs : start < G.n) (hD : Dist G start ds) {c : Nat} (h : Best G start ds c) (hne : c ≠ start) {T : List Nat} (hT : Greedy G ds c T) :
    Closed G start (c :: T) ∧ ∀ P, Closed G start P → SLE (c :: T) P := by
  have hc : c < G.n := h.edge.lt hG hs
  obtain ⟨v, hv, he⟩ := hT.closed hG hD hc
  refine ⟨⟨v, ⟨h.edge, hv⟩, he⟩, fun P hP => ?_⟩
  have hlen := hT.len
  obtain ⟨u, hp, hu⟩ := hP
  cases P with
  | nil =>
    have e : start = u := hp
    subst e
    have := h.best start hu (by rw [hD.st]; omega)
    rw [hD.st] at this
    rcases this with h1 | h1
    · have := h.ne; omega
    · exact absurd (hD.one c hc h1.1) hne
  | cons x l =>
    have hx : x < G.n := hp.1.lt hG hs
    have hdx := hD.path_le hG hx (path_snoc hp.2 hu)
    have hle : ds x ≤ l.length + 2 := by have := hdx.2; simp at this; omega
    rcases h.best x hp.1 hdx.1 with h1 | ⟨h1, h2⟩
    · exact .inr (.inl (by simp; omega))
    · by_cases el : T.length < l.length
      · exact .inr (.inl (by simp; omega))
      · have el : l.length = T.length := by omega
        by_cases e : c = x
        · subst e
          rcases hT.least hG hD hc hp.2 hu el with e2 | e2
          · exact .inl (by rw [e2])
          · exact .inr (.inr ⟨by simp; omega, .inr ⟨rfl, e2⟩⟩)
        · exact .inr (.inr ⟨by simp; omega, .inl (by omega)⟩)
end

/-! ### The search over the arcs turned round -/
structure BB (G : Gr) (start : Nat) (fi pr : Nat → Nat) (Q : List Nat) (ds : Nat → Nat) (h p : Nat) : Prop where
  lt : ∀ x, x ∈ Q → x < G.n
  nd : Q.Nodup
  count : cnt (fun v => decide (v ∈ Q)) G.n = Q.length
  out : ∀ x, x ∉ Q → ds x = 0
  inq : ∀ x, x ∈ Q → ds x ≠ 0
  mem : start ∈ Q
  st : ds start = 1
  one : ∀ x, x ∈ Q → ds x = 1 → x = start
  succ : ∀ x, x ∈ Q → x ≠ start → ∃ y, y ∈ Q ∧ G.Edge x y ∧ ds x = ds y + 1
  le : h ≤ Q.length
  done : ∀ x, x ∈ Q.take h → ∀ y, y < G.n → G.Edge y x → y ∈ Q ∧ ds y ≤ ds x + 1
  cur : ∀ x, Q[h]? = some x → ∀ r, fi x ≤ r → r < p → pr r ∈ Q ∧ ds (pr r) ≤ ds x + 1
  sorted : Q.Pairwise (fun a b => ds a ≤ ds b)
  near : ∀ x, Q[h]? = some x → ∀ y, y ∈ Q → ds y ≤ ds x + 1
  bound : ∀ x, ds x ≤ Q.length

section
variable {G : Gr} {start : Nat} {fi pr ds : Nat → Nat} {Q : List Nat} {h p : Nat}

theorem BB.first (hs : start < G.n) : BB G start fi pr [start] (upd (fun _ => 0) start 1) 0 0 where
  lt := fun x hx => by simp at hx; omega
  nd := by simp
  count := cnt_snoc (R := []) hs (by simp) (cnt_zero (by simp))
  out := fun x hx => by simp at hx; rw [upd_ne _ _ hx]
  inq := fun x hx => by simp at hx; rw [hx, upd_same]; omega
  mem := by simp
  st := upd_same _ _ _
  one := fun x hx _ => by simpa using hx
  succ := fun x hx hne => by simp at hx; exact absurd hx hne
  le := Nat.zero_le _
  done := fun x hx => by simp at hx
  cur := fun _ _ r _ hr => by omega
  sorted := List.pairwise_singleton _ _
  near := fun x hx y hy => by
    simp at hx hy
    subst hx hy
    omega
  bound := fun x => by unfold upd; split <;> simp

theorem BB.length_le (b : BB G start fi pr Q ds h p) : Q.length ≤ G.n := by rw [← b.count]; exact cnt_le _ _

theorem BB.at (b : BB G start fi pr Q ds h p) {x : Nat} (hx : Q[h]? = some x) : BB G start fi pr Q ds h (fi x) :=
  { b with cur := fun y hy r h1 h2 => by rw [hx] at hy; cases hy; omega }

theorem BB.skip (b : BB G start fi pr Q ds h p) {x : Nat} (hx : Q[h]? = some x) (hp : ds (pr p) ≠ 0) : BB G start fi pr Q ds h (p + 1) :=
  { b with
    cur := fun y hy r h1 h2 => by
      by_cases e : r = p
      · subst e
        have hm : pr r ∈ Q := Classical.byContradiction fun hn => hp (b.out _ hn)
        exact ⟨hm, b.near y hy _ hm⟩
      · exact b.cur y hy r h1 (by omega) }

theorem BB.push (b : BB G start fi pr Q ds h p) {x : Nat} (hx : Q[h]? = some x) (hp : ds (pr p) = 0) (hlt : pr p < G.n) (he : G.Edge (pr p) x) :
    BB G start fi pr (Q ++ [pr p]) (upd ds (pr p) (ds x + 1)) h (p + 1) := by
  have hl := (List.getElem?_eq_some_iff.1 hx).1
  have hxm : x ∈ Q := List.mem_of_getElem? hx
  have hyQ : pr p ∉ Q := fun hm => b.inq _ hm hp
  generalize hyy : pr p = y at *
  have hne : ∀ z, z ∈ Q → z ≠ y := fun z hz e => hyQ (e ▸ hz)
  have htk : (Q ++ [y]).take h = Q.take h := List.take_append_of_le_length (by omega)
  have hgh : (Q ++ [y])[h]? = some x := by rw [List.getElem?_append_left hl]; exact hx
  have hmem : ∀ z, z ∈ Q ++ [y] → z ∈ Q ∨ z = y := fun z hz => by simpa using hz
  have hd : ∀ z, z ∈ Q → upd ds y (ds x + 1) z = ds z := fun z hz => upd_ne _ _ (hne z hz)
  have hsy : start ≠ y := hne _ b.mem
  exact {
    lt := fun z hz => (hmem z hz).elim (b.lt z) (fun e => e ▸ hlt)
    nd := nd_snoc b.nd hyQ
    count := cnt_snoc hlt hyQ b.count
    out := fun z hz => by
      simp at hz
      rw [upd_ne _ _ hz.2]
      exact b.out z hz.1
    inq := fun z hz => by
      rcases hmem z hz with hz | rfl
      · rw [hd z hz]; exact b.inq z hz
      · rw [upd_same]; omega
    mem := by simp [b.mem]
    st := by rw [hd _ b.mem]; exact b.st
    one := fun z hz h1 => by
      rcases hmem z hz with hz | rfl
      · rw [hd z hz] at h1; exact b.one z hz h1
      · rw [upd_same] at h1
        have := b.inq x hxm
        omega
    succ := fun z hz hzs => by
      rcases hmem z hz with hz | rfl
      · obtain ⟨u, h1, h2, h3⟩ := b.succ z hz hzs
        exact ⟨u, by simp [h1], h2, by rw [hd z hz, hd u h1]; exact h3⟩
      · exact ⟨x, by simp [hxm], he, by rw [upd_same, hd x hxm]⟩
    le := by simp; omega
    done := fun z hz u hu huz => by
      rw [htk] at hz
      have hzQ := List.mem_of_mem_take hz
      obtain ⟨h1, h2⟩ := b.done z hz u hu huz
      exact ⟨by simp [h1], by rw [hd u h1, hd z hzQ]; exact h2⟩
    cur := fun z hz r h1 h2 => by
      rw [hgh] at hz; cases hz
      rw [hd x hxm]
      by_cases e : r = p
      · subst e
        rw [hyy, upd_same]
        exact ⟨by simp, by omega⟩
      · obtain ⟨h3, h4⟩ := b.cur x hx r h1 (by omega)
        exact ⟨by simp [h3], by rw [hd _ h3]; exact h4⟩
    sorted := by
      rw [List.pairwise_append]
      refine ⟨?_, List.pairwise_singleton _ _, fun z hz u hu => ?_⟩
      · refine List.Pairwise.imp_of_mem ?_ b.sorted
        intro z u hz hu hzu
        rw [hd z hz, hd u hu]; exact hzu
      · simp at hu; subst hu
        rw [upd_same, hd z hz]
        exact b.near x hx z hz
    near := fun z hz u hu => by
      rw [hgh] at hz; cases hz
      rw [hd x hxm]
      rcases hmem u hu with hu | rfl
      · rw [hd u hu]; exact b.near x hx u hu
      · rw [upd_same]; omega
    bound := fun z => by
      unfold upd
      split
      · have := b.bound x; simp; omega
      · have := b.bound z; simp; omega }

theorem BB.next (b : BB G start fi pr Q ds h p) {M : Nat} (hR : Rev G fi pr M) {x : Nat} (hx : Q[h]? = some x) (hp : fi (x + 1) ≤ p) : BB G start fi pr Q ds (h + 1) 0 := by
  have hl := (List.getElem?_eq_some_iff.1 hx).1
  have hxm : x ∈ Q := List.mem_of_getElem? hx
  exact { b with
    le := hl
    done := fun z hz y hy he => by
      rw [take_succ_some hx] at hz
      simp only [List.mem_append, List.mem_singleton] at hz
      rcases hz with hz | rfl
      · exact b.done z hz y hy he
      · obtain ⟨r, h1, h2, rfl⟩ := (hR.iff z y (b.lt z hxm)).1 ⟨he, hy⟩
        exact b.cur z hx r h1 (by omega)
    cur := fun _ _ r _ hr => by omega
    near := fun z hz y hy => by
      have h1 := b.near x hx y hy
      have h2 : ds x ≤ ds z := by
        have hs := b.sorted
        rw [← List.take_append_drop (h + 1) Q, List.pairwise_append] at hs
        refine hs.2.2 x ?_ z ?_
        · rw [take_succ_some hx]; simp
        · exact List.mem_of_getElem? (i := 0) (by simp [hz])
      omega }

theorem BB.ends (b : BB G start fi pr Q ds h p) (hh : h = Q.length) : Dist G start ds := by
  have hin : ∀ x, ds x ≠ 0 → x ∈ Q := fun x hx => Classical.byContradiction fun hn => hx (b.out x hn)
  subst hh
  exact {
    st := b.st
    one := fun x hx h1 => b.one x (hin x (by omega)) h1
    edge := fun y x hy hx he hd => by
      obtain ⟨h1, h2⟩ := b.done x (by rw [List.take_length]; exact hin x hd) y hy he
      exact ⟨b.inq y h1, h2⟩
    succ := fun x hx hd hne => by
      obtain ⟨y, h1, h2, h3⟩ := b.succ x (hin x hd) hne
      exact ⟨y, b.lt y h1, h2, b.inq y h1, h3⟩ }
end
end Go.Proofs.Qxb6601860a
