import Derived.Test.Qxb6601860aBb
namespace Go.Proofs.Qxb6601860a
set_option linter.unusedVariables false

theorem cnt_mono {p q : Nat → Bool} : ∀ {n : Nat}, (∀ i, i < n → p i = true → q i = true) → cnt p n ≤ cnt q n
  | 0, _ => Nat.le_refl _
  | n + 1, h => by
    have ih := cnt_mono (n := n) (fun i hi => h i (by omega))
    have hn := h n (by omega)
    simp only [cnt]
    cases e : p n with
    | false => simp; split <;> omega
    | true => rw [hn e]; simp; exact ih

theorem cnt_strict {p q : Nat → Bool} {n x : Nat} (h : ∀ i, i < n → p i = true → q i = true) (hx : x < n) (hp : p x = false) (hq : q x = true) : cnt p n < cnt q n := by
  have h1 := cnt_add (p := p) (q := fun i => p i || decide (i = x)) (x := x) hp (by simp) (fun i hi => by simp [hi]) (n := n)
  rw [if_pos hx] at h1
  have h2 : cnt (fun i => p i || decide (i = x)) n ≤ cnt q n := cnt_mono (fun i hi hpi => by
    simp at hpi
    rcases hpi with hpi | rfl
    · exact h i hi hpi
    · exact hq)
  omega

theorem sumTo_congr {f g : Nat → Nat} : ∀ {n}, (∀ i, i < n → f i = g i) → sumTo f n = sumTo g n
  | 0, _ => rfl
  | n + 1, h => by simp only [sumTo]; rw [sumTo_congr (fun i hi => h i (by omega)), h n (by omega)]
theorem sumTo_ge {f : Nat → Nat} : ∀ {n i : Nat}, i < n → f i ≤ sumTo f n
  | 0, i, h => by omega
  | n + 1, i, h => by
    simp only [sumTo]
    by_cases e : i = n
    · subst e; omega
    · have := sumTo_ge (f := f) (n := n) (i := i) (by omega); omega
theorem sumTo_ex {f : Nat → Nat} : ∀ {n : Nat}, 0 < sumTo f n → ∃ i, i < n ∧ 0 < f i
  | 0, h => by simp [sumTo] at h
  | n + 1, h => by
    simp only [sumTo] at h
    by_cases e : 0 < f n
    · exact ⟨n, by omega, e⟩
    · obtain ⟨i, hi, h'⟩ := sumTo_ex (f := f) (n := n) (by omega)
      exact ⟨i, by omega, h'⟩
theorem sumTo_bound {f : Nat → Nat} {b : Nat} : ∀ {n : Nat}, (∀ i, i < n → f i ≤ b) → sumTo f n ≤ n * b
  | 0, _ => by simp [sumTo]
  | n + 1, h => by
    have := sumTo_bound (f := f) (b := b) (n := n) (fun i hi => h i (by omega))
    have := h n (by omega)
    simp only [sumTo]
    rw [Nat.add_mul]; omega

/-! ### Counting the arcs that lead to a node (arcs to itself set aside) -/
/-- of u's first p arcs -/
def arcsTo (G : Gr) (u p x : Nat) : Nat := if u = x then 0 else cnt (fun k => decide (G.adj u k = x)) p
/-- of u's arcs from p on -/
def restTo (G : Gr) (u p x : Nat) : Nat := if u = x then 0 else cnt (fun k => decide (p ≤ k) && decide (G.adj u k = x)) (G.deg u)

def indeg (G : Gr) (ptr : Nat → Nat) (x : Nat) : Nat := sumTo (fun u => arcsTo G u (ptr u) x) G.n
def outst (G : Gr) (ptr : Nat → Nat) (x : Nat) : Nat := sumTo (fun u => restTo G u (ptr u) x) G.n

theorem indeg_start (G : Gr) (x : Nat) : indeg G (fun _ => 0) x = 0 := by
  unfold indeg
  rw [sumTo_congr (g := fun _ => 0) (fun u _ => by unfold arcsTo; split <;> rfl)]
  generalize G.n = n
  induction n with
  | zero => rfl
  | succ n ih => simp only [sumTo]; rw [ih]

theorem indeg_step (G : Gr) (ptr : Nat → Nat) {v a : Nat} (hv : v < G.n) (ha : ptr v = a) (hne : G.adj v a ≠ v) (x : Nat) :
    indeg G (upd ptr v (a + 1)) x = if x = G.adj v a then indeg G ptr (G.adj v a) + 1 else indeg G ptr x := by
  unfold indeg
  by_cases e : x = G.adj v a
  · subst e
    rw [if_pos rfl]
    rw [sumTo_succ_at (f := fun u => arcsTo G u (ptr u) (G.adj v a)) (g := fun u => arcsTo G u (upd ptr v (a + 1) u) (G.adj v a)) (x := v), if_pos hv]
    · simp only [upd_same, ha]
      unfold arcsTo
      rw [if_neg (Ne.symm hne), if_neg (Ne.symm hne)]
      simp [cnt]
    · intro i hi; simp only [upd_ne _ _ hi]
  · rw [if_neg e]
    refine sumTo_congr (fun u _ => ?_)
    by_cases eu : u = v
    · subst eu
      rw [upd_same, ha]
      unfold arcsTo
      by_cases ex : u = x
      · rw [if_pos ex, if_pos ex]
      · rw [if_neg ex, if_neg ex]
        simp only [cnt]
        rw [if_neg (by simp; exact fun h => e h.symm), Nat.add_zero]
    · rw [upd_ne _ _ eu]

theorem indeg_skip (G : Gr) (ptr : Nat → Nat) {v a : Nat} (ha : ptr v = a) (he : G.adj v a = v) (x : Nat) : indeg G (upd ptr v (a + 1)) x = indeg G ptr x := by
  unfold indeg
  refine sumTo_congr (fun u _ => ?_)
  by_cases eu : u = v
  · subst eu
    rw [upd_same, ha]
    unfold arcsTo
    by_cases ex : u = x
    · rw [if_pos ex, if_pos ex]
    · rw [if_neg ex, if_neg ex]
      simp only [cnt]
      rw [if_neg (by simp; rw [he]; exact ex), Nat.add_zero]
  · rw [upd_ne _ _ eu]

theorem indeg_full (G : Gr) {ptr : Nat → Nat} (h : ∀ u, u < G.n → ptr u = G.deg u) (x : Nat) : indeg G ptr x = outst G (fun _ => 0) x := by
  unfold indeg outst
  refine sumTo_congr (fun u hu => ?_)
  rw [h u hu]
  unfold arcsTo restTo
  split
  · rfl
  · exact cnt_congr (fun k _ => by simp)

theorem indeg_le (G : Gr) {ptr : Nat → Nat} (h : ∀ u, u < G.n → ptr u ≤ 1048576) (hn : G.n ≤ 65536) (x : Nat) : indeg G ptr x ≤ 68719476736 := by
  unfold indeg
  have := sumTo_bound (f := fun u => arcsTo G u (ptr u) x) (b := 1048576) (n := G.n) (fun u hu => by
    simp only [arcsTo]
    split
    · omega
    · exact Nat.le_trans (cnt_le _ _) (h u hu))
  have : G.n * 1048576 ≤ 65536 * 1048576 := Nat.mul_le_mul_right _ hn
  omega

theorem outst_step (G : Gr) (ptr : Nat → Nat) {v a : Nat} (hv : v < G.n) (ha : ptr v = a) (hd : a < G.deg v) (hne : G.adj v a ≠ v) (x : Nat) :
    outst G ptr x = if x = G.adj v a then outst G (upd ptr v (a + 1)) (G.adj v a) + 1 else outst G (upd ptr v (a + 1)) x := by
  unfold outst
  by_cases e : x = G.adj v a
  · subst e
    rw [if_pos rfl]
    rw [sumTo_succ_at (g := fun u => restTo G u (ptr u) (G.adj v a)) (f := fun u => restTo G u (upd ptr v (a + 1) u) (G.adj v a)) (x := v), if_pos hv]
    · simp only [upd_same, ha]
      unfold restTo
      rw [if_neg (Ne.symm hne), if_neg (Ne.symm hne)]
      rw [cnt_add (p := fun k => decide (a + 1 ≤ k) && decide (G.adj v k = G.adj v a)) (q := fun k => decide (a ≤ k) && decide (G.adj v k = G.adj v a)) (x := a) (by simp) (by simp) (fun i hi => by
        by_cases h : a ≤ i
        · have : a + 1 ≤ i := by omega
          simp [h, this]
        · have : ¬ a + 1 ≤ i := by omega
          simp [h, this]), if_pos hd]
    · intro i hi; simp only [upd_ne _ _ hi]
  · rw [if_neg e]
    refine sumTo_congr (fun u _ => ?_)
    by_cases eu : u = v
    · subst eu
      rw [upd_same, ha]
      unfold restTo
      by_cases ex : u = x
      · rw [if_pos ex, if_pos ex]
      · rw [if_neg ex, if_neg ex]
        refine cnt_congr (fun k _ => ?_)
        by_cases ek : k = a
        · subst ek; simp; exact fun h => absurd h.symm e
        · by_cases h : a ≤ k
          · have : a + 1 ≤ k := by omega
            simp [h, this]
          · have : ¬ a + 1 ≤ k := by omega
            simp [h, this]
    · rw [upd_ne _ _ eu]

theorem outst_skip (G : Gr) (ptr : Nat → Nat) {v a : Nat} (ha : ptr v = a) (he : G.adj v a = v) (x : Nat) : outst G (upd ptr v (a + 1)) x = outst G ptr x := by
  unfold outst
  refine sumTo_congr (fun u _ => ?_)
  by_cases eu : u = v
  · subst eu
    rw [upd_same, ha]
    unfold restTo
    by_cases ex : u = x
    · rw [if_pos ex, if_pos ex]
    · rw [if_neg ex, if_neg ex]
      refine cnt_congr (fun k _ => ?_)
      by_cases ek : k = a
      · subst ek; simp; rw [he]; exact fun h => absurd h ex
      · by_cases h : a ≤ k
        · have : a + 1 ≤ k := by omega
          simp [h, this]
        · have : ¬ a + 1 ≤ k := by omega
          simp [h, this]
  · rw [upd_ne _ _ eu]

/-- Nothing outstanding: every arc to x has been followed. -/
theorem outst_zero {G : Gr} {ptr : Nat → Nat} {x : Nat} (h : outst G ptr x = 0) {u : Nat} (hu : u < G.n) (hne : u ≠ x) (he : G.Edge u x) : ptr u ≠ 0 := by
  intro h0
  obtain ⟨k, hk, e⟩ := he
  have h1 := sumTo_ge (f := fun u => restTo G u (ptr u) x) hu
  have h2 : 0 < restTo G u (ptr u) x := by
    unfold restTo
    rw [if_neg hne, h0]
    exact cnt_pos hk (by simp [e])
  unfold outst at h
  have h1' : restTo G u (ptr u) x ≤ sumTo (fun u => restTo G u (ptr u) x) G.n := h1
  omega

/-- Something outstanding: an arc that has not been followed. -/
theorem outst_pos {G : Gr} {ptr : Nat → Nat} {x : Nat} (h : outst G ptr x ≠ 0) : ∃ u, u < G.n ∧ u ≠ x ∧ G.Edge u x ∧ ptr u < G.deg u := by
  unfold outst at h
  obtain ⟨u, hu, hp⟩ := sumTo_ex (Nat.pos_of_ne_zero h)
  simp only [restTo] at hp
  by_cases e : u = x
  · rw [if_pos e] at hp; omega
  · rw [if_neg e] at hp
    obtain ⟨k, hk, hk'⟩ := cnt_ex hp
    simp at hk'
    exact ⟨u, hu, e, ⟨k, hk, hk'.2⟩, by omega⟩

/-! ### Kahn's algorithm -/
structure KI (G : Gr) (R : List Nat) (ptr : Nat → Nat) (h a : Nat) : Prop where
  lt : ∀ x, x ∈ R → x < G.n
  nd : R.Nodup
  count : cnt (fun v => decide (v ∈ R)) G.n = R.length
  zero : ∀ x, x ∈ R → outst G ptr x = 0
  all : ∀ x, x < G.n → outst G ptr x = 0 → x ∈ R
  le : h ≤ R.length
  done : ∀ u, u ∈ R.take h → ptr u = G.deg u
  cur : ∀ v, R[h]? = some v → ptr v = a
  none : ∀ u, u ∉ R.take (h + 1) → ptr u = 0
  ord : ∀ t x, R[t]? = some x → ∀ u, u < G.n → u ≠ x → G.Edge u x → u ∈ R.take t

/-- The nodes found ready at the start, up to j. -/
structure K0 (G : Gr) (R : List Nat) (j : Nat) : Prop where
  lt : ∀ x, x ∈ R → x < j
  nd : R.Nodup
  count : cnt (fun v => decide (v ∈ R)) G.n = R.length
  zero : ∀ x, x ∈ R → outst G (fun _ => 0) x = 0
  all : ∀ x, x < j → outst G (fun _ => 0) x = 0 → x ∈ R

theorem K0.start (G : Gr) : K0 G [] 0 := ⟨by simp, List.nodup_nil, cnt_zero (by simp), by simp, by omega⟩
theorem cnt_snoc {n j : Nat} {R : List Nat} (hj : j < n) (hR : j ∉ R) (h : cnt (fun v => decide (v ∈ R)) n = R.length) : cnt (fun v => decide (v ∈ R ++ [j])) n = (R ++ [j]).length := by
  rw [cnt_add (p := fun v => decide (v ∈ R)) (q := fun v => decide (v ∈ R ++ [j])) (x := j) (by simp [hR]) (by simp) (fun v hv => by simp [hv]), h, if_pos hj]
  simp
theorem nd_snoc {R : List Nat} {j : Nat} (h : R.Nodup) (hj : j ∉ R) : (R ++ [j]).Nodup := by
  rw [List.nodup_append]
  refine ⟨h, by simp, fun a ha b hb e => ?_⟩
  simp at hb
  subst hb
  exact hj (e ▸ ha)
theorem K0.push {G : Gr} {R : List Nat} {j : Nat} (h : K0 G R j) (hj : j < G.n) (hz : outst G (fun _ => 0) j = 0) : K0 G (R ++ [j]) (j + 1) where
  lt := fun x hx => by simp at hx; rcases hx with hx | rfl; have := h.lt x hx; omega; omega
  nd := nd_snoc h.nd (fun hm => by have := h.lt j hm; omega)
  count := cnt_snoc hj (fun hm => by have := h.lt j hm; omega) h.count
  zero := fun x hx => by simp at hx; rcases hx with hx | rfl; exact h.zero x hx; exact hz
  all := fun x hx h0 => by
    by_cases e : x = j
    · simp [e]
    · simp [h.all x (by omega) h0]
theorem K0.pass {G : Gr} {R : List Nat} {j : Nat} (h : K0 G R j) (hz : outst G (fun _ => 0) j ≠ 0) : K0 G R (j + 1) :=
  { h with
    lt := fun x hx => by have := h.lt x hx; omega
    all := fun x hx h0 => by
      by_cases e : x = j
      · subst e; exact absurd h0 hz
      · exact h.all x (by omega) h0 }

theorem K0.kahn {G : Gr} {R : List Nat} (h : K0 G R G.n) : KI G R (fun _ => 0) 0 0 where
  lt := h.lt
  nd := h.nd
  count := h.count
  zero := h.zero
  all := h.all
  le := Nat.zero_le _
  done := fun u hu => by simp at hu
  cur := fun _ _ => rfl
  none := fun _ _ => rfl
  ord := fun t x hx u hu hne he => absurd rfl (outst_zero (h.zero x (List.mem_of_getElem? hx)) hu hne he)

section
variable {G : Gr} {R : List Nat} {ptr : Nat → Nat} {h a : Nat}

theorem take_succ_some {R : List Nat} {h v : Nat} (hv : R[h]? = some v) : R.take (h + 1) = R.take h ++ [v] := by rw [List.take_add_one, hv]; rfl

theorem notin_take {R : List Nat} {h v : Nat} (hn : R.Nodup) (hv : R[h]? = some v) : v ∉ R.take h := by
  intro hm
  have hl := (List.getElem?_eq_some_iff.1 hv).1
  have h1 : (R.take h ++ R.drop h).Nodup := by rw [List.take_append_drop]; exact hn
  rw [List.nodup_append] at h1
  have h2 : v ∈ R.drop h := List.mem_of_getElem? (i := 0) (by simp [hv])
  exact h1.2.2 v hm v h2 rfl

theorem KI.length_le (k : KI G R ptr h a) : R.length ≤ G.n := by rw [← k.count]; exact cnt_le _ _

/-- An arc to the node itself. -/
theorem KI.skip (k : KI G R ptr h a) {v : Nat} (hv : R[h]? = some v) (he : G.adj v a = v) : KI G R (upd ptr v (a + 1)) h (a + 1) := by
  have hp := k.cur v hv
  have ho := outst_skip G ptr hp he
  have hnt := notin_take k.nd hv
  exact { k with
    zero := fun x hx => by rw [ho]; exact k.zero x hx
    all := fun x hx h0 => k.all x hx (by rw [← ho]; exact h0)
    done := fun u hu => by rw [upd_ne ptr (a + 1) (show u ≠ v from fun e => hnt (e ▸ hu))]; exact k.done u hu
    cur := fun v' hv' => by rw [hv] at hv'; cases hv'; exact upd_same _ _ _
    none := fun u hu => by
      rw [upd_ne _ _ (fun e => hu (by rw [take_succ_some hv, e]; simp))]
      exact k.none u hu }

/-- An arc to another node, which stays outstanding. -/
theorem KI.lower (k : KI G R ptr h a) {v : Nat} (hv : R[h]? = some v) (hd : a < G.deg v) (hne : G.adj v a ≠ v) (hz : outst G (upd ptr v (a + 1)) (G.adj v a) ≠ 0) : KI G R (upd ptr v (a + 1)) h (a + 1) := by
  have hp := k.cur v hv
  have hvn := k.lt v (List.mem_of_getElem? hv)
  have ho := outst_step G ptr hvn hp hd hne
  have hnt := notin_take k.nd hv
  exact { k with
    zero := fun x hx => by
      have h0 := k.zero x hx
      rw [ho] at h0
      split at h0
      · omega
      · exact h0
    all := fun x hx h0 => by
      refine k.all x hx ?_
      rw [ho]
      split
      · rename_i e; subst e; exact absurd h0 hz
      · exact h0
    done := fun u hu => by rw [upd_ne ptr (a + 1) (show u ≠ v from fun e => hnt (e ▸ hu))]; exact k.done u hu
    cur := fun v' hv' => by rw [hv] at hv'; cases hv'; exact upd_same _ _ _
    none := fun u hu => by
      rw [upd_ne _ _ (fun e => hu (by rw [take_succ_some hv, e]; simp))]
      exact k.none u hu }

/-- An arc to another node, the last one outstanding. -/
theorem KI.push (k : KI G R ptr h a) (hG : G.Ok) {v : Nat} (hv : R[h]? = some v) (hd : a < G.deg v) (hne : G.adj v a ≠ v) (hz : outst G (upd ptr v (a + 1)) (G.adj v a) = 0) :
    KI G (R ++ [G.adj v a]) (upd ptr v (a + 1)) h (a + 1) := by
  have hp := k.cur v hv
  have hl := (List.getElem?_eq_some_iff.1 hv).1
  have hvn := k.lt v (List.mem_of_getElem? hv)
  have hxn := hG v hvn a hd
  have ho := outst_step G ptr hvn hp hd hne
  have hnt := notin_take k.nd hv
  have hxR : G.adj v a ∉ R := fun hm => by
    have := k.zero _ hm
    rw [ho, if_pos rfl] at this
    omega
  have htk : (R ++ [G.adj v a]).take h = R.take h := List.take_append_of_le_length (by omega)
  have htk1 : (R ++ [G.adj v a]).take (h + 1) = R.take (h + 1) := List.take_append_of_le_length (by omega)
  have hgh : (R ++ [G.adj v a])[h]? = some v := by rw [List.getElem?_append_left hl]; exact hv
  have hnone : ∀ u, u ∉ R.take (h + 1) → upd ptr v (a + 1) u = 0 := fun u hu => by
    rw [upd_ne _ _ (fun e => hu (by rw [take_succ_some hv, e]; simp))]
    exact k.none u hu
  exact {
    lt := fun x hx => by simp at hx; rcases hx with hx | rfl; exact k.lt x hx; exact hxn
    nd := nd_snoc k.nd hxR
    count := cnt_snoc hxn hxR k.count
    zero := fun x hx => by
      simp at hx
      rcases hx with hx | rfl
      · have h0 := k.zero x hx
        rw [ho] at h0
        split at h0
        · omega
        · exact h0
      · exact hz
    all := fun x hx h0 => by
      by_cases e : x = G.adj v a
      · simp [e]
      · have := k.all x hx (by rw [ho, if_neg e]; exact h0)
        simp [this]
    le := by simp; omega
    done := fun u hu => by rw [htk] at hu; rw [upd_ne ptr (a + 1) (show u ≠ v from fun e => hnt (e ▸ hu))]; exact k.done u hu
    cur := fun v' hv' => by rw [hgh] at hv'; cases hv'; exact upd_same _ _ _
    none := fun u hu => by rw [htk1] at hu; exact hnone u hu
    ord := fun t x hx u hu hux he => by
      by_cases ht : t < R.length
      · rw [List.take_append_of_le_length (by omega)]
        rw [List.getElem?_append_left ht] at hx
        exact k.ord t x hx u hu hux he
      · have htl := (List.getElem?_eq_some_iff.1 hx).1
        simp at htl
        obtain rfl : t = R.length := by omega
        simp at hx
        subst hx
        rw [List.take_append_of_le_length (by omega), List.take_length]
        have h1 := outst_zero hz hu hux he
        apply Classical.byContradiction
        intro hn
        exact h1 (hnone u (fun hm => hn (List.mem_of_mem_take hm))) }

theorem KI.next (k : KI G R ptr h a) {v : Nat} (hv : R[h]? = some v) (ha : a = G.deg v) : KI G R ptr (h + 1) 0 := by
  have hl := (List.getElem?_eq_some_iff.1 hv).1
  have hnone : ∀ u, u ∉ R.take (h + 1) → ptr u = 0 := k.none
  exact { k with
    le := hl
    done := fun u hu => by
      rw [take_succ_some hv] at hu
      simp only [List.mem_append, List.mem_singleton] at hu
      rcases hu with hu | rfl
      · exact k.done u hu
      · rw [k.cur u hv]; exact ha
    cur := fun v' hv' => hnone v' (notin_take k.nd hv')
    none := fun u hu => hnone u (fun hm => hu (by
      rw [List.take_add_one]
      simp only [List.mem_append]
      exact .inl hm)) }

/-- The algorithm has ended. -/
theorem KI.ends (k : KI G R ptr h a) (hG : G.Ok) (hh : h = R.length) : R.length = G.n ↔ ∀ v, v < G.n → ¬ Multi G v := by
  subst hh
  have hdone : ∀ u, u ∈ R → ptr u = G.deg u := fun u hu => k.done u (by rw [List.take_length]; exact hu)
  constructor
  · intro hn v hv hm
    have hall : ∀ x, x < G.n → x ∈ R := fun x hx => by
      have := cnt_full (p := fun v => decide (v ∈ R)) (n := G.n) (by rw [k.count, hn]) x hx
      simpa using this
    have hinj : ∀ {s t u : Nat}, R[s]? = some u → R[t]? = some u → s = t := by
      intro s t u hs ht
      rcases Nat.lt_trichotomy s t with hlt | he | hgt
      · exfalso
        refine notin_take k.nd ht (List.mem_of_getElem? (i := s) ?_)
        rw [List.getElem?_take_of_lt hlt]; exact hs
      · exact he
      · exfalso
        refine notin_take k.nd hs (List.mem_of_getElem? (i := t) ?_)
        rw [List.getElem?_take_of_lt hgt]; exact ht
    have hreach : ∀ {l : List Nat} {u x s t : Nat}, G.Path u l x → R[s]? = some u → R[t]? = some x → s ≤ t := by
      intro l
      induction l with
      | nil =>
        intro u x s t hp hs ht
        have e : u = x := hp
        subst e
        exact Nat.le_of_eq (hinj hs ht)
      | cons y l ih =>
        intro u x s t hp hs ht
        have hun := k.lt u (List.mem_of_getElem? hs)
        have hyn : y < G.n := hp.1.lt hG hun
        obtain ⟨r, hr⟩ := List.mem_iff_getElem?.1 (hall y hyn)
        have h2 := ih hp.2 hr ht
        by_cases e : u = y
        · subst e
          have := hinj hs hr
          omega
        · have := k.ord r y hr u hun e hp.1
          obtain ⟨q, hq⟩ := List.mem_iff_getElem?.1 this
          have hql := (List.getElem?_eq_some_iff.1 hq).1
          have hqr : q < r := by simp at hql; omega
          rw [List.getElem?_take_of_lt hqr] at hq
          have := hinj hs hq
          omega
    obtain ⟨z, hz, hne, ⟨l1, h1⟩, ⟨l2, h2⟩⟩ := hm
    obtain ⟨s, hs⟩ := List.mem_iff_getElem?.1 (hall v hv)
    obtain ⟨t, ht⟩ := List.mem_iff_getElem?.1 (hall z hz)
    have e1 := hreach h1 hs ht
    have e2 := hreach h2 ht hs
    obtain rfl : s = t := by omega
    rw [hs] at ht
    cases ht
    exact hne rfl
  · intro hm
    apply Classical.byContradiction
    intro hn
    have hlt : R.length < G.n := by have := k.length_le; omega
    have hex : ∃ x, x < G.n ∧ x ∉ R := by
      apply Classical.byContradiction
      intro hno
      have : cnt (fun v => decide (v ∈ R)) G.n = G.n := by
        have hle := cnt_le (fun v => decide (v ∈ R)) G.n
        have h1 : cnt (fun _ => true) G.n ≤ cnt (fun v => decide (v ∈ R)) G.n := cnt_mono (fun i hi _ => by
          simp
          apply Classical.byContradiction
          intro hi'
          exact hno ⟨i, hi, hi'⟩)
        have h2 : cnt (fun _ => true) G.n = G.n := by
          generalize G.n = n
          induction n with
          | zero => rfl
          | succ n ih => simp only [cnt]; rw [ih]; simp
        omega
      rw [k.count] at this
      omega
    have hpred : ∀ x, x < G.n → x ∉ R → ∃ u, u < G.n ∧ u ∉ R ∧ u ≠ x ∧ G.Edge u x := fun x hx hxR => by
      obtain ⟨u, hu, hne, he, hp⟩ := outst_pos (G := G) (ptr := ptr) (x := x) (fun h0 => hxR (k.all x hx h0))
      exact ⟨u, hu, fun hm => by rw [hdone u hm] at hp; omega, hne, he⟩
    obtain ⟨x0, hx0, hx0R⟩ := hex
    have key : ∀ m x, x < G.n → x ∉ R → cnt (fun y => @decide (G.Reach y x) (Classical.propDecidable _)) G.n ≤ m → False := by
      intro m
      induction m with
      | zero =>
        intro x hx hxR hc
        have := cnt_pos (p := fun y => @decide (G.Reach y x) (Classical.propDecidable _)) hx (by simp; exact Gr.Reach.refl _)
        omega
      | succ m ih =>
        intro x hx hxR hc
        obtain ⟨u, hu, huR, hne, he⟩ := hpred x hx hxR
        refine ih u hu huR ?_
        have := cnt_strict (p := fun y => @decide (G.Reach y u) (Classical.propDecidable _)) (q := fun y => @decide (G.Reach y x) (Classical.propDecidable _)) (n := G.n) (x := x)
          (fun y hy hp => by simp at hp ⊢; exact hp.trans (Gr.Reach.edge he)) hx (by simp; exact fun hr => hm x hx ⟨u, hu, hne, hr, Gr.Reach.edge he⟩) (by simp; exact Gr.Reach.refl _)
        omega
    exact key _ x0 hx0 hx0R (Nat.le_refl _)
end
end Go.Proofs.Qxb6601860a
