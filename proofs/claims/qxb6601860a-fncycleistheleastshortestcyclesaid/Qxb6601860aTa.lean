import Derived.Test.Qxb6601860aRa
namespace Go.Proofs.Qxb6601860a
set_option linter.unusedVariables false

/-! ### The first pass: the order in which the nodes are done with -/
structure DF (G : Gr) (seen : Nat → Bool) (gray order : List Nat) (ptr : Nat → Nat) : Prop where
  gLt : ∀ x, x ∈ gray → x < G.n
  oLt : ∀ x, x ∈ order → x < G.n
  gnd : gray.Nodup
  ond : order.Nodup
  dis : ∀ x, x ∈ gray → x ∉ order
  seenIff : ∀ x, seen x = true ↔ x ∈ gray ∨ x ∈ order
  count : cnt seen G.n = gray.length + order.length
  reach : gray.Pairwise (fun a b => G.Reach a b)
  ptrLe : ∀ x, x < G.n → ptr x ≤ G.deg x
  foll : ∀ x, x < G.n → ∀ k, k < ptr x → seen (G.adj x k) = true
  done : ∀ x, x ∈ order → ptr x = G.deg x
  fresh : ∀ x, seen x = false → ptr x = 0
  back : ∀ y, y ∈ order → ∀ v, v < G.n → v ∉ order → G.Reach y v → ∃ g, g ∈ gray ∧ G.Reach y g ∧ G.Reach g y
  late : ∀ t v, order[t]? = some v → ∀ y, y ∈ order.take t → G.Reach y v → ∃ g, g < G.n ∧ g ∉ order.take t ∧ G.Reach y g ∧ G.Reach g y

theorem DF.start (G : Gr) : DF G (fun _ => false) [] [] (fun _ => 0) where
  gLt := by simp
  oLt := by simp
  gnd := List.nodup_nil
  ond := List.nodup_nil
  dis := by simp
  seenIff := by simp
  count := cnt_zero (fun _ _ => rfl)
  reach := List.Pairwise.nil
  ptrLe := fun _ _ => Nat.zero_le _
  foll := fun _ _ k hk => by omega
  done := by simp
  fresh := fun _ _ => rfl
  back := by simp
  late := by simp

section
variable {G : Gr} {seen : Nat → Bool} {gray order : List Nat} {ptr : Nat → Nat}

theorem DF.enter (h : DF G seen gray order ptr) {x : Nat} (hx : x < G.n) (hs : seen x = false) (hr : ∀ g, g ∈ gray → G.Reach g x) :
    DF G (fun v => decide (v = x) || seen v) (gray ++ [x]) order ptr := by
  have hxg : x ∉ gray := fun hm => by have := (h.seenIff x).2 (.inl hm); rw [hs] at this; cases this
  have hxo : x ∉ order := fun hm => by have := (h.seenIff x).2 (.inr hm); rw [hs] at this; cases this
  exact {
    gLt := fun y hy => by simp at hy; rcases hy with hy | rfl; exact h.gLt y hy; exact hx
    oLt := h.oLt
    gnd := nd_snoc h.gnd hxg
    ond := h.ond
    dis := fun y hy => by simp at hy; rcases hy with hy | rfl; exact h.dis y hy; exact hxo
    seenIff := fun y => by
      have := h.seenIff y
      by_cases e : y = x
      · subst e; simp
      · simp [e, this]
    count := by
      rw [cnt_add (p := seen) (q := fun v => decide (v = x) || seen v) (x := x) hs (by simp) (fun i hi => by simp [hi]), h.count, if_pos hx]
      simp; omega
    reach := pw_append_one h.reach (fun a ha => hr a ha)
    ptrLe := h.ptrLe
    foll := fun y hy k hk => by have := h.foll y hy k hk; simp [this]
    done := h.done
    fresh := fun y hy => by simp at hy; exact h.fresh y hy.2
    back := fun y hy v hv hvo hr => by
      obtain ⟨g, h1, h2⟩ := h.back y hy v hv hvo hr
      exact ⟨g, by simp [h1], h2⟩
    late := h.late }

theorem DF.bump (h : DF G seen gray order ptr) {v a : Nat} (hv : v ∈ gray) (ha : ptr v = a) (hd : a < G.deg v) (hs : seen (G.adj v a) = true) : DF G seen gray order (upd ptr v (a + 1)) :=
  { h with
    ptrLe := fun x hx => by
      by_cases e : x = v
      · subst e; rw [upd_same]; exact hd
      · rw [upd_ne _ _ e]; exact h.ptrLe x hx
    foll := fun x hx k hk => by
      by_cases e : x = v
      · subst e
        rw [upd_same] at hk
        by_cases ek : k = a
        · subst ek; exact hs
        · exact h.foll x hx k (by omega)
      · rw [upd_ne _ _ e] at hk; exact h.foll x hx k hk
    done := fun x hx => by
      rw [upd_ne _ _ (fun e : x = v => h.dis v hv (e ▸ hx))]; exact h.done x hx
    fresh := fun x hx => by
      rw [upd_ne _ _ (fun e : x = v => by have := (h.seenIff v).2 (.inl hv); rw [← e, hx] at this; cases this)]
      exact h.fresh x hx }

theorem DF.pop (h : DF G seen gray order ptr) {gs : List Nat} {v : Nat} (hg : gray = gs ++ [v]) (hp : ptr v = G.deg v) : DF G seen gs (order ++ [v]) ptr := by
  subst hg
  have hvg : v ∈ gs ++ [v] := by simp
  have hvn := h.gLt v hvg
  have hvo : v ∉ order := h.dis v hvg
  have hpw := h.reach
  rw [List.pairwise_append] at hpw
  have hnd := h.gnd
  rw [List.nodup_append] at hnd
  have hvgs : v ∉ gs := fun hm => hnd.2.2 v hm v (by simp) rfl
  have exit : ∀ {l : List Nat} {x u : Nat}, x < G.n → x ∈ order ++ [v] → G.Reach v x → G.Path x l u → u ∉ order ++ [v] → ∃ z, z ∈ gs ∧ G.Reach v z := by
    intro l
    induction l with
    | nil =>
      intro x u hx hxo hr hpath hu
      have e : x = u := hpath
      subst e
      exact absurd hxo hu
    | cons y l ih =>
      intro x u hx hxo hr hpath hu
      obtain ⟨k, hk, e⟩ := hpath.1
      have hpx : ptr x = G.deg x := by
        simp at hxo
        rcases hxo with hxo | rfl
        · exact h.done x hxo
        · exact hp
      have hsy := h.foll x hx k (by omega)
      rw [e] at hsy
      have hry : G.Reach v y := hr.trans (Gr.Reach.edge hpath.1)
      rcases (h.seenIff y).1 hsy with hy | hy
      · simp at hy
        rcases hy with hy | rfl
        · exact ⟨y, hy, hry⟩
        · exact ih hvn (by simp) hry hpath.2 hu
      · exact ih (h.oLt y hy) (by simp [hy]) hry hpath.2 hu
  have claim : ∀ u, u ∉ order ++ [v] → G.Reach v u → ∃ z, z ∈ gs ∧ G.Reach v z ∧ G.Reach z v := fun u hu hr => by
    obtain ⟨l, hl⟩ := hr
    obtain ⟨z, hz, hvz⟩ := exit hvn (by simp) (Gr.Reach.refl _) hl hu
    exact ⟨z, hz, hvz, hpw.2.2 z hz v (by simp)⟩
  exact {
    gLt := fun x hx => h.gLt x (by simp [hx])
    oLt := fun x hx => by simp at hx; rcases hx with hx | rfl; exact h.oLt x hx; exact hvn
    gnd := hnd.1
    ond := nd_snoc h.ond hvo
    dis := fun x hx hm => by
      simp at hm
      rcases hm with hm | rfl
      · exact h.dis x (by simp [hx]) hm
      · exact hvgs hx
    seenIff := fun x => by
      rw [h.seenIff x]
      simp
      constructor
      · rintro ((h1 | h1) | h1)
        · exact .inl h1
        · exact .inr (.inr h1)
        · exact .inr (.inl h1)
      · rintro (h1 | h1 | h1)
        · exact .inl (.inl h1)
        · exact .inr h1
        · exact .inl (.inr h1)
    count := by rw [h.count]; simp; omega
    reach := hpw.1
    ptrLe := h.ptrLe
    foll := h.foll
    done := fun x hx => by simp at hx; rcases hx with hx | rfl; exact h.done x hx; exact hp
    fresh := h.fresh
    back := fun y hy u hu huo hr => by
      simp only [List.mem_append, List.mem_singleton] at hy
      rcases hy with hy | rfl
      · have huo' : u ∉ order := fun hm => huo (by simp [hm])
        obtain ⟨g, hg, h1, h2⟩ := h.back y hy u hu huo' hr
        simp at hg
        rcases hg with hg | rfl
        · exact ⟨g, hg, h1, h2⟩
        · obtain ⟨z, hz, h3, h4⟩ := claim u huo (h2.trans hr)
          exact ⟨z, hz, h1.trans h3, h4.trans h2⟩
      · exact claim u huo hr
    late := fun t x hx y hy hr => by
      by_cases ht : t < order.length
      · rw [List.take_append_of_le_length (by omega)] at hy ⊢
        rw [List.getElem?_append_left ht] at hx
        exact h.late t x hx y hy hr
      · have htl := (List.getElem?_eq_some_iff.1 hx).1
        simp at htl
        obtain rfl : t = order.length := by omega
        simp at hx
        subst hx
        rw [List.take_append_of_le_length (Nat.le_refl _), List.take_length] at hy ⊢
        obtain ⟨g, hg, h1, h2⟩ := h.back y hy v hvn hvo hr
        exact ⟨g, h.gLt g hg, h.dis g hg, h1, h2⟩ }

/-- What is left to do. -/
def todoF (G : Gr) (gray : List Nat) (ptr : Nat → Nat) : Nat := 2 * sumTo (fun u => G.deg u - ptr u) G.n + gray.length

theorem todoF_bump {gray : List Nat} {v a : Nat} (hv : v < G.n) (ha : ptr v = a) (hd : a < G.deg v) : todoF G gray (upd ptr v (a + 1)) + 2 = todoF G gray ptr := by
  unfold todoF
  rw [sumTo_succ_at (f := fun u => G.deg u - upd ptr v (a + 1) u) (g := fun u => G.deg u - ptr u) (x := v) (by simp only [upd_same, ha]; omega) (fun i hi => by simp only [upd_ne _ _ hi]), if_pos hv]
  omega

/-- The first pass has ended. -/
structure Fin (G : Gr) (order : List Nat) : Prop where
  all : ∀ x, x < G.n → x ∈ order
  lt : ∀ x, x ∈ order → x < G.n
  len : order.length = G.n
  late : ∀ t v, order[t]? = some v → ∀ y, y ∈ order.take t → G.Reach y v → ∃ g, g < G.n ∧ g ∉ order.take t ∧ G.Reach y g ∧ G.Reach g y

theorem DF.ends (h : DF G seen [] order ptr) (hs : ∀ x, x < G.n → seen x = true) : Fin G order where
  all := fun x hx => by have := (h.seenIff x).1 (hs x hx); simpa using this
  lt := h.oLt
  len := by
    have h1 := h.count
    have h2 : cnt seen G.n = G.n := by
      have hle := cnt_le seen G.n
      rcases Nat.lt_or_ge (cnt seen G.n) G.n with hlt | hge
      · have h3 : cnt (fun _ => true) G.n ≤ cnt seen G.n := cnt_mono (fun i hi _ => hs i hi)
        have h4 : cnt (fun _ => true) G.n = G.n := by
          generalize G.n = n
          induction n with
          | zero => rfl
          | succ n ih => simp only [cnt]; rw [ih]; simp
        omega
      · omega
    simp at h1
    omega
  late := h.late
end

/-! ### The second pass -/
structure K2 (G : Gr) (order : List Nat) (cm : Nat → Nat) (sz : List Nat) (k : Nat) : Prop where
  pos : ∀ t x, k ≤ t → order[t]? = some x → cm x ≠ 0
  back : ∀ y x, y < G.n → x < G.n → G.Edge y x → cm x ≠ 0 → cm y ≠ 0
  le : ∀ x, cm x ≤ sz.length
  out : ∀ x, cm x ≠ 0 → x < G.n
  cls : ∀ u v, cm u ≠ 0 → cm v ≠ 0 → (cm u = cm v ↔ G.Reach u v ∧ G.Reach v u)
  size : ∀ c, c < sz.length → sz[c]? = some (cnt (fun u => decide (cm u = c + 1)) G.n)
  bound : sz.length + k ≤ G.n

theorem K2.start {G : Gr} {order : List Nat} (hF : Fin G order) : K2 G order (fun _ => 0) [] G.n where
  pos := fun t x ht hx => by
    have := (List.getElem?_eq_some_iff.1 hx).1
    have := hF.len
    omega
  back := fun _ _ _ _ _ h => absurd rfl h
  le := fun _ => Nat.zero_le _
  out := fun _ h => absurd rfl h
  cls := fun _ _ h => absurd rfl h
  size := fun c hc => by simp at hc
  bound := by simp

section
variable {G : Gr} {order sz : List Nat} {cm : Nat → Nat} {k : Nat}
theorem K2.backR (h : K2 G order cm sz k) (hG : G.Ok) : ∀ {l : List Nat} {u g : Nat}, u < G.n → G.Path u l g → cm g ≠ 0 → cm u ≠ 0
  | [], u, g, hu, hp, hc => by
    have e : u = g := hp
    subst e; exact hc
  | x :: l, u, g, hu, hp, hc => by
    have hx : x < G.n := hp.1.lt hG hu
    exact h.back u x hu hx hp.1 (K2.backR h hG hx hp.2 hc)

theorem K2.pass (h : K2 G order cm sz (k + 1)) {v : Nat} (hv : order[k]? = some v) (hc : cm v ≠ 0) : K2 G order cm sz k :=
  { h with
    pos := fun t x ht hx => by
      by_cases e : t = k
      · subst e; rw [hv] at hx; cases hx; exact hc
      · exact h.pos t x (by omega) hx
    bound := by have := h.bound; omega }

end

/-- While the group of v is gathered: x: the node whose predecessors are looked at, up to p (x = n: none); st: the stack; s: the group's size. -/
structure KX (G : Gr) (fi pr : Nat → Nat) (cm0 : Nat → Nat) (c v : Nat) (cm : Nat → Nat) (st : List Nat) (x p s : Nat) : Prop where
  old : ∀ u, cm0 u ≠ 0 → cm u = cm0 u
  new : ∀ u, cm u ≠ 0 → cm0 u = 0 → cm u = c + 1 ∧ u < G.n ∧ G.Reach u v
  root : cm v = c + 1
  stk : ∀ u, u ∈ st → cm u = c + 1 ∧ u < G.n
  closed : ∀ u, cm u = c + 1 → cm0 u = 0 → u ∉ st → u ≠ x → ∀ y, y < G.n → G.Edge y u → cm y ≠ 0
  cur : x < G.n → cm x = c + 1 ∧ ∀ r, fi x ≤ r → r < p → cm (pr r) ≠ 0
  size : cnt (fun u => decide (cm u = c + 1)) G.n = s
  room : st.length + (G.n - cnt (fun u => decide (cm u ≠ 0)) G.n) ≤ G.n

section
variable {G : Gr} {fi pr cm0 cm : Nat → Nat} {c v x p s M : Nat} {st : List Nat}

theorem K2.begin {order sz : List Nat} {k : Nat} (h : K2 G order cm0 sz k) (hv : v < G.n) (h0 : cm0 v = 0) : KX G fi pr cm0 sz.length v (upd cm0 v (sz.length + 1)) [v] G.n 0 1 where
  old := fun u hu => upd_ne _ _ (fun e => hu (e ▸ h0))
  new := fun u hu h0u => by
    by_cases e : u = v
    · subst e; exact ⟨upd_same _ _ _, hv, Gr.Reach.refl _⟩
    · rw [upd_ne _ _ e] at hu; exact absurd h0u hu
  root := upd_same _ _ _
  stk := fun u hu => by simp at hu; subst hu; exact ⟨upd_same _ _ _, hv⟩
  closed := fun u hu h0u hst => by
    by_cases e : u = v
    · subst e; exact absurd (by simp) hst
    · rw [upd_ne _ _ e, h0u] at hu; omega
  cur := fun h => absurd h (Nat.lt_irrefl _)
  size := by
    rw [cnt_add (p := fun u => decide (cm0 u = sz.length + 1)) (q := fun u => decide (upd cm0 v (sz.length + 1) u = sz.length + 1)) (x := v) (by simp [h0]) (by simp [upd_same]) (fun i hi => by simp [upd_ne _ _ hi]), if_pos hv,
      cnt_zero (fun u _ => by have := h.le u; simp; omega)]
  room := by
    have := cnt_pos (p := fun u => decide (upd cm0 v (sz.length + 1) u ≠ 0)) hv (by simp [upd_same])
    simp only [List.length_singleton]
    omega

theorem KX.pop (h : KX G fi pr cm0 c v cm (st ++ [x]) G.n 0 s) : KX G fi pr cm0 c v cm st x (fi x) s :=
  { h with
    stk := fun u hu => h.stk u (by simp [hu])
    closed := fun u hu h0 hst hne y hy he => h.closed u hu h0 (by simp [hst, hne]) (fun e => by
      by_cases h' : cm u = 0
      · omega
      · have := (h.new u h' h0).2.1; omega) y hy he
    cur := fun _ => ⟨(h.stk x (by simp)).1, fun r h1 h2 => by omega⟩
    room := by have := h.room; simp only [List.length_append, List.length_singleton] at this; omega }

theorem KX.skip (h : KX G fi pr cm0 c v cm st x p s) (hx : x < G.n) (hp : cm (pr p) ≠ 0) : KX G fi pr cm0 c v cm st x (p + 1) s :=
  { h with
    cur := fun _ => ⟨(h.cur hx).1, fun r h1 h2 => by
      by_cases e : r = p
      · subst e; exact hp
      · exact (h.cur hx).2 r h1 (by omega)⟩ }

theorem KX.push (h : KX G fi pr cm0 c v cm st x p s) (hx : x < G.n) (hp : cm (pr p) = 0) (hlt : pr p < G.n) (he : G.Edge (pr p) x) (hx0 : cm0 x = 0) :
    KX G fi pr cm0 c v (upd cm (pr p) (c + 1)) (st ++ [pr p]) x (p + 1) (s + 1) := by
  generalize hyy : pr p = y at *
  have hne : ∀ u, cm u ≠ 0 → u ≠ y := fun u hu e => hu (e ▸ hp)
  have hcx := (h.cur hx).1
  have hxv := (h.new x (by omega) hx0).2.2
  have hy0 : cm0 y = 0 := by
    rcases Nat.eq_zero_or_pos (cm0 y) with h' | h'
    · exact h'
    · have := h.old y (by omega); omega
  have hcount := cnt_add (p := fun u => decide (cm u ≠ 0)) (q := fun u => decide (upd cm y (c + 1) u ≠ 0)) (x := y) (by simp [hp]) (by simp [upd_same]) (fun i hi => by simp [upd_ne _ _ hi]) (n := G.n)
  rw [if_pos hlt] at hcount
  exact {
    old := fun u hu => by
      rw [upd_ne _ _ (fun e : u = y => hu (e ▸ hy0))]; exact h.old u hu
    new := fun u hu h0u => by
      by_cases e : u = y
      · subst e; exact ⟨upd_same _ _ _, hlt, (Gr.Reach.edge he).trans hxv⟩
      · rw [upd_ne _ _ e] at hu ⊢; exact h.new u hu h0u
    root := by rw [upd_ne _ _ (hne v (by rw [h.root]; omega))]; exact h.root
    stk := fun u hu => by
      simp at hu
      rcases hu with hu | rfl
      · have := h.stk u hu
        rw [upd_ne _ _ (hne u (by omega))]; exact this
      · exact ⟨upd_same _ _ _, hlt⟩
    closed := fun u hu h0u hst hux z hz hzu => by
      simp at hst
      rw [upd_ne _ _ hst.2] at hu
      have := h.closed u hu h0u hst.1 hux z hz hzu
      rw [upd_ne _ _ (hne z this)]; exact this
    cur := fun _ => ⟨by rw [upd_ne _ _ (hne x (by omega))]; exact hcx, fun r h1 h2 => by
      by_cases e : r = p
      · subst e; rw [hyy, upd_same]; omega
      · have := (h.cur hx).2 r h1 (by omega)
        rw [upd_ne _ _ (hne _ this)]; exact this⟩
    size := by
      rw [cnt_add (p := fun u => decide (cm u = c + 1)) (q := fun u => decide (upd cm y (c + 1) u = c + 1)) (x := y) (by simp [hp]) (by simp [upd_same]) (fun i hi => by simp [upd_ne _ _ hi]), if_pos hlt, h.size]
    room := by
      have h1 := h.room
      have h2 := cnt_le (fun u => decide (upd cm y (c + 1) u ≠ 0)) G.n
      simp only [List.length_append, List.length_singleton]
      omega }

theorem KX.scan (h : KX G fi pr cm0 c v cm st x p s) (hR : Rev G fi pr M) (hx : x < G.n) (hp : fi (x + 1) ≤ p) : KX G fi pr cm0 c v cm st G.n 0 s :=
  { h with
    closed := fun u hu h0 hst hne y hy he => by
      by_cases e : u = x
      · subst e
        obtain ⟨r, h1, h2, rfl⟩ := (hR.iff u y hx).1 ⟨he, hy⟩
        exact (h.cur hx).2 r h1 (by omega)
      · exact h.closed u hu h0 hst e y hy he
    cur := fun h => absurd h (Nat.lt_irrefl _) }

theorem KX.ends {order sz : List Nat} {k : Nat} (hG : G.Ok) (hF : Fin G order) (b : K2 G order cm0 sz (k + 1)) (hv : order[k]? = some v) (h : KX G fi pr cm0 sz.length v cm [] G.n 0 s) : K2 G order cm (sz ++ [s]) k := by
  have hvn := hF.lt v (List.mem_of_getElem? hv)
  have h0v : cm0 v = 0 := by
    rcases Nat.eq_zero_or_pos (cm0 v) with h' | h'
    · exact h'
    · have h1 := h.old v (by omega)
      have h2 := b.le v
      have h3 := h.root
      omega
  have hmut : ∀ u, cm u ≠ 0 → cm0 u = 0 → G.Reach u v ∧ G.Reach v u := fun u hu h0 => by
    obtain ⟨h1, hun, hr⟩ := h.new u hu h0
    refine ⟨hr, ?_⟩
    obtain ⟨t, ht⟩ := List.mem_iff_getElem?.1 (hF.all u hun)
    rcases Nat.lt_trichotomy t k with hlt | he | hgt
    · have hut : u ∈ order.take k := List.mem_of_getElem? (i := t) (by rw [List.getElem?_take_of_lt hlt]; exact ht)
      obtain ⟨g, hgn, hgk, ⟨l, hug⟩, hgu⟩ := hF.late k v hv u hut hr
      obtain ⟨q, hq⟩ := List.mem_iff_getElem?.1 (hF.all g hgn)
      have hqk : k ≤ q := by
        rcases Nat.lt_or_ge q k with h' | h'
        · exact absurd (List.mem_of_getElem? (i := q) (by rw [List.getElem?_take_of_lt h']; exact hq)) hgk
        · exact h'
      by_cases e : q = k
      · subst e; rw [hv] at hq; cases hq; exact hgu
      · have := b.pos q g (by omega) hq
        exact absurd h0 (b.backR hG hun hug this)
    · subst he; rw [hv] at ht; cases ht; exact Gr.Reach.refl _
    · exact absurd h0 (b.pos t u hgt ht)
  have hcase : ∀ u, cm u ≠ 0 → (cm0 u ≠ 0 ∧ cm u = cm0 u) ∨ (cm0 u = 0 ∧ cm u = sz.length + 1) := fun u hu => by
    by_cases e : cm0 u = 0
    · exact .inr ⟨e, (h.new u hu e).1⟩
    · exact .inl ⟨e, h.old u e⟩
  have hlt : ∀ u, cm u ≠ 0 → u < G.n := fun u hu => by
    rcases hcase u hu with ⟨h1, _⟩ | ⟨h1, _⟩
    · exact b.out u h1
    · exact (h.new u hu h1).2.1
  exact {
    pos := fun t x ht hx => by
      by_cases e : t = k
      · subst e; rw [hv] at hx; cases hx; rw [h.root]; omega
      · have := b.pos t x (by omega) hx
        rw [h.old x this]; exact this
    back := fun y x hy hx he hc => by
      rcases hcase x hc with ⟨h1, _⟩ | ⟨h1, h2⟩
      · have := b.back y x hy hx he h1
        rw [h.old y this]; exact this
      · exact h.closed x h2 h1 (by simp) (by omega) y hy he
    le := fun x => by
      by_cases e : cm x = 0
      · omega
      · simp only [List.length_append, List.length_singleton]
        rcases hcase x e with ⟨h1, h2⟩ | ⟨h1, h2⟩
        · have := b.le x; omega
        · omega
    out := hlt
    cls := fun u w hu hw => by
      rcases hcase u hu with ⟨h1, h2⟩ | ⟨h1, h2⟩ <;> rcases hcase w hw with ⟨h3, h4⟩ | ⟨h3, h4⟩
      · rw [h2, h4]; exact b.cls u w h1 h3
      · have := b.le u
        constructor
        · intro e; omega
        · rintro ⟨_, l, hl⟩
          exact absurd h3 (b.backR hG (hlt w hw) hl h1)
      · have := b.le w
        constructor
        · intro e; omega
        · rintro ⟨⟨l, hl⟩, _⟩
          exact absurd h1 (b.backR hG (hlt u hu) hl h3)
      · have hu' := hmut u hu h1
        have hw' := hmut w hw h3
        constructor
        · intro _; exact ⟨hu'.1.trans hw'.2, hw'.1.trans hu'.2⟩
        · intro _; omega
    size := fun c' hc' => by
      simp only [List.length_append, List.length_singleton] at hc'
      by_cases e : c' = sz.length
      · subst e; simp [h.size]
      · rw [List.getElem?_append_left (by omega), b.size c' (by omega)]
        congr 1
        refine cnt_congr (fun u _ => ?_)
        by_cases e0 : cm0 u = 0
        · by_cases ec : cm u = 0
          · simp [e0, ec]
          · have := (h.new u ec e0).1
            simp [e0, this]; omega
        · rw [h.old u e0]
    bound := by have := b.bound; simp only [List.length_append, List.length_singleton]; omega }

/-- All nodes have their group. -/
theorem K2.ends {order sz : List Nat} (hF : Fin G order) (b : K2 G order cm sz 0) : (∀ x, x < G.n → cm x ≠ 0) ∧ Comps G (fun x => cm x - 1) ∧ ∀ x, x < G.n → sz[cm x - 1]? = some (sizeOf (fun x => cm x - 1) G.n (cm x - 1)) := by
  have hall : ∀ x, x < G.n → cm x ≠ 0 := fun x hx => by
    obtain ⟨t, ht⟩ := List.mem_iff_getElem?.1 (hF.all x hx)
    exact b.pos t x (Nat.zero_le _) ht
  refine ⟨hall, ⟨fun x hx => ?_, fun u w hu hw => ?_⟩, fun x hx => ?_⟩
  · have h1 := hall x hx
    have h2 := b.le x
    have h3 := b.bound
    show cm x - 1 < G.n
    omega
  · have h1 := hall u hu
    have h2 := hall w hw
    rw [← b.cls u w h1 h2]
    show cm u - 1 = cm w - 1 ↔ _
    omega
  · have h1 := hall x hx
    have h2 := b.le x
    rw [b.size (cm x - 1) (by omega)]
    congr 1
    unfold sizeOf
    refine cnt_congr (fun u hu => ?_)
    have := hall u hu
    by_cases e : cm u = cm x
    · simp [e]; omega
    · have e1 : ¬ cm u = cm x - 1 + 1 := by omega
      have e2 : ¬ cm u - 1 = cm x - 1 := by omega
      simp [e1, e2]
end
end Go.Proofs.Qxb6601860a
