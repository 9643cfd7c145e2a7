import Derived.Test.Qxb6601860aKb
namespace Go.Proofs.Qxb6601860a
open Go.RowKit
set_option linter.unusedVariables false

/-! ### The arcs turned round -/
/-- The arcs to x among those that have been met. -/
def inn (G : Gr) (ptr : Nat → Nat) (x : Nat) : Nat := sumTo (fun u => cnt (fun k => decide (G.adj u k = x)) (ptr u)) G.n

theorem inn_start (G : Gr) (x : Nat) : inn G (fun _ => 0) x = 0 := by
  unfold inn
  generalize G.n = n
  induction n with
  | zero => rfl
  | succ n ih => simp only [sumTo]; rw [ih]; rfl

theorem inn_step (G : Gr) (ptr : Nat → Nat) {v a : Nat} (hv : v < G.n) (ha : ptr v = a) (x : Nat) :
    inn G (upd ptr v (a + 1)) x = if x = G.adj v a then inn G ptr (G.adj v a) + 1 else inn G ptr x := by
  unfold inn
  by_cases e : x = G.adj v a
  · subst e
    rw [if_pos rfl]
    rw [sumTo_succ_at (f := fun u => cnt (fun k => decide (G.adj u k = G.adj v a)) (ptr u)) (g := fun u => cnt (fun k => decide (G.adj u k = G.adj v a)) (upd ptr v (a + 1) u)) (x := v), if_pos hv]
    · simp only [upd_same, ha]
      simp [cnt]
    · intro i hi; simp only [upd_ne _ _ hi]
  · rw [if_neg e]
    refine sumTo_congr (fun u _ => ?_)
    by_cases eu : u = v
    · subst eu
      rw [upd_same, ha]
      simp only [cnt]
      rw [if_neg (by simp; exact fun h => e h.symm), Nat.add_zero]
    · rw [upd_ne _ _ eu]

theorem cnt_le_le {p : Nat → Bool} {m : Nat} : ∀ {n : Nat}, m ≤ n → cnt p m ≤ cnt p n
  | 0, h => by have : m = 0 := by omega
               subst this; exact Nat.le_refl _
  | n + 1, h => by
    by_cases e : m = n + 1
    · subst e; exact Nat.le_refl _
    · have := cnt_le_le (p := p) (m := m) (n := n) (by omega)
      simp only [cnt]; omega

theorem inn_le {G : Gr} {ptr : Nat → Nat} (h : ∀ u, u < G.n → ptr u ≤ G.deg u) (x : Nat) : inn G ptr x ≤ inn G G.deg x := by
  unfold inn
  exact sumTo_le (fun u hu => cnt_le_le (h u hu))

theorem CI.leDeg {G : Gr} {ptr : Nat → Nat} {j a : Nat} (h : CI G ptr j a) (ha : a ≤ G.deg j) : ∀ u, u < G.n → ptr u ≤ G.deg u := fun u hu => by
  rcases Nat.lt_trichotomy u j with hl | he | hg
  · rw [h.lo u hl]; omega
  · subst he; rw [h.at_]; exact ha
  · rw [h.hi u hg]; omega

theorem inn_bound {G : Gr} (hS : Small G) (x : Nat) : inn G G.deg x ≤ 68719476736 := by
  unfold inn
  have := sumTo_bound (f := fun u => cnt (fun k => decide (G.adj u k = x)) (G.deg u)) (b := 1048576) (n := G.n) (fun u hu => Nat.le_trans (cnt_le _ _) (hS.deg u hu))
  have : G.n * 1048576 ≤ 65536 * 1048576 := Nat.mul_le_mul_right _ hS.n
  omega

/-- The place where x's arcs begin. -/
def fst (G : Gr) (x : Nat) : Nat := sumTo (inn G G.deg) x

theorem sumTo_mono {f : Nat → Nat} {m : Nat} : ∀ {n : Nat}, m ≤ n → sumTo f m ≤ sumTo f n
  | 0, h => by have : m = 0 := by omega
               subst this; exact Nat.le_refl _
  | n + 1, h => by
    by_cases e : m = n + 1
    · subst e; exact Nat.le_refl _
    · have := sumTo_mono (f := f) (m := m) (n := n) (by omega)
      simp only [sumTo]; omega
theorem fst_mono (G : Gr) {x y : Nat} (h : x ≤ y) : fst G x ≤ fst G y := sumTo_mono h
theorem fst_succ (G : Gr) (x : Nat) : fst G (x + 1) = fst G x + inn G G.deg x := rfl
theorem sumTo_plus {f g : Nat → Nat} : ∀ {n : Nat}, sumTo (fun i => f i + g i) n = sumTo f n + sumTo g n
  | 0 => rfl
  | n + 1 => by have := sumTo_plus (f := f) (g := g) (n := n); simp only [sumTo]; omega
theorem sumTo_zero : ∀ {n : Nat}, sumTo (fun _ => 0) n = 0
  | 0 => rfl
  | n + 1 => by have := sumTo_zero (n := n); simp only [sumTo]; omega
theorem sumTo_swap {f : Nat → Nat → Nat} {m : Nat} : ∀ {n : Nat}, sumTo (fun x => sumTo (fun u => f u x) m) n = sumTo (fun u => sumTo (fun x => f u x) n) m
  | 0 => by simp only [sumTo]; exact sumTo_zero.symm
  | n + 1 => by
    have := sumTo_swap (f := f) (m := m) (n := n)
    simp only [sumTo]
    rw [this, ← sumTo_plus]
theorem sumTo_one {y : Nat} : ∀ {n : Nat}, sumTo (fun x => if decide (y = x) = true then 1 else 0) n ≤ (if y < n then 1 else 0)
  | 0 => by simp [sumTo]
  | n + 1 => by
    have ih := sumTo_one (y := y) (n := n)
    simp only [sumTo]
    generalize sumTo (fun x => if decide (y = x) = true then 1 else 0) n = t at *
    by_cases e : y = n
    · subst e
      rw [if_neg (Nat.lt_irrefl _)] at ih
      rw [if_pos (by simp), if_pos (Nat.lt_succ_self _)]
      omega
    · have h3 : (if decide (y = n) = true then 1 else 0) = 0 := by simp [e]
      rw [h3]
      by_cases h : y < n
      · rw [if_pos h] at ih
        rw [if_pos (Nat.lt_succ_of_lt h)]; omega
      · rw [if_neg h] at ih
        have h4 : ¬ y < n + 1 := by omega
        rw [if_neg h4]; omega
theorem sumTo_cnt {g : Nat → Nat} {n : Nat} : ∀ {p : Nat}, sumTo (fun x => cnt (fun k => decide (g k = x)) p) n ≤ p
  | 0 => by simp only [cnt]; rw [sumTo_zero]; exact Nat.le_refl _
  | p + 1 => by
    have := sumTo_cnt (g := g) (n := n) (p := p)
    simp only [cnt]
    rw [sumTo_plus]
    have h2 := sumTo_one (y := g p) (n := n)
    split at h2 <;> omega
theorem fst_bound {G : Gr} (hS : Small G) {x : Nat} (hx : x ≤ G.n) : fst G x ≤ 68719476736 := by
  refine Nat.le_trans (fst_mono G hx) ?_
  unfold fst
  show sumTo (fun x => sumTo (fun u => cnt (fun k => decide (G.adj u k = x)) (G.deg u)) G.n) G.n ≤ _
  rw [sumTo_swap]
  have := sumTo_bound (f := fun u => sumTo (fun x => cnt (fun k => decide (G.adj u k = x)) (G.deg u)) G.n) (b := 1048576) (n := G.n) (fun u hu => Nat.le_trans sumTo_cnt (hS.deg u hu))
  have : G.n * 1048576 ≤ 65536 * 1048576 := Nat.mul_le_mul_right _ hS.n
  omega

/-- What is handed out. -/
structure Rev (G : Gr) (fi pr : Nat → Nat) (M : Nat) : Prop where
  mono : ∀ x, x < G.n → fi x ≤ fi (x + 1) ∧ fi (x + 1) ≤ M
  lt : ∀ p, p < M → pr p < G.n
  iff : ∀ x y, x < G.n → (G.Edge y x ∧ y < G.n ↔ ∃ p, fi x ≤ p ∧ p < fi (x + 1) ∧ pr p = y)

/-- While the predecessors are filled in. -/
structure RI (G : Gr) (ptr fl pr : Nat → Nat) : Prop where
  fill : ∀ x, x < G.n → fl x = fst G x + inn G ptr x
  sound : ∀ x, x < G.n → ∀ p, fst G x ≤ p → p < fl x → G.Edge (pr p) x
  comp : ∀ u, u < G.n → ∀ k, k < ptr u → ∃ p, fst G (G.adj u k) ≤ p ∧ p < fl (G.adj u k) ∧ pr p = u
  lt : ∀ p, p < fst G G.n → pr p < G.n

theorem RI.start {G : Gr} {fl : Nat → Nat} (hf : ∀ x, x < G.n → fl x = fst G x) : RI G (fun _ => 0) fl (fun _ => 0) where
  fill := fun x hx => by rw [hf x hx, inn_start]; rfl
  sound := fun x hx p h1 h2 => by rw [hf x hx] at h2; omega
  comp := fun u hu k hk => by omega
  lt := fun p hp => by
    rcases Nat.eq_zero_or_pos G.n with h | h
    · rw [h] at hp; simp [fst, sumTo] at hp
    · exact h

theorem RI.room {G : Gr} (hG : G.Ok) {ptr fl pr : Nat → Nat} (h : RI G ptr fl pr) {v a : Nat} (hv : v < G.n) (hC : CI G ptr v a) (hd : a < G.deg v) : fl (G.adj v a) < fst G (G.adj v a + 1) := by
  have hx := hG v hv a hd
  have h1 := inn_step G ptr hv hC.at_ (G.adj v a)
  rw [if_pos rfl] at h1
  have h2 := inn_le (G := G) (ptr := upd ptr v (a + 1)) (hC.step.leDeg hd) (G.adj v a)
  rw [h.fill _ hx, fst_succ]
  omega

theorem RI.step {G : Gr} (hG : G.Ok) {ptr fl pr : Nat → Nat} (h : RI G ptr fl pr) {v a : Nat} (hv : v < G.n) (hC : CI G ptr v a) (hd : a < G.deg v) :
    RI G (upd ptr v (a + 1)) (upd fl (G.adj v a) (fl (G.adj v a) + 1)) (upd pr (fl (G.adj v a)) v) := by
  have hx := hG v hv a hd
  have hroom := h.room hG hv hC hd
  have hlow : fst G (G.adj v a) ≤ fl (G.adj v a) := by rw [h.fill _ hx]; omega
  have hfl : ∀ y, y < G.n → fst G y ≤ fl y ∧ fl y ≤ fst G (y + 1) := fun y hy => by
    have := inn_le (hC.leDeg (by omega)) y
    rw [h.fill y hy, fst_succ]; omega
  generalize hxx : G.adj v a = x at *
  have hdis : ∀ y, y < G.n → y ≠ x → ∀ p, fst G y ≤ p → p < fl y → p ≠ fl x := fun y hy hne p h1 h2 e => by
    subst e
    rcases Nat.lt_or_ge y x with hl | hg
    · have := fst_mono G (x := y + 1) (y := x) hl
      have := (hfl y hy).2
      omega
    · have := fst_mono G (x := x + 1) (y := y) (by omega)
      omega
  exact {
    fill := fun y hy => by
      rw [inn_step G ptr hv hC.at_, hxx]
      by_cases e : y = x
      · subst e; rw [upd_same, if_pos rfl, h.fill y hy]; omega
      · rw [upd_ne _ _ e, if_neg e, h.fill y hy]
    sound := fun y hy p h1 h2 => by
      by_cases e : y = x
      · subst e
        rw [upd_same] at h2
        by_cases ep : p = fl y
        · subst ep; rw [upd_same]; exact ⟨a, hd, hxx⟩
        · rw [upd_ne _ _ ep]; exact h.sound y hy p h1 (by omega)
      · rw [upd_ne _ _ e] at h2
        rw [upd_ne _ _ (hdis y hy e p h1 h2)]
        exact h.sound y hy p h1 h2
    comp := fun u hu k hk => by
      have hold : ∀ k, k < ptr u → k < G.deg u → ∃ p, fst G (G.adj u k) ≤ p ∧ p < upd fl x (fl x + 1) (G.adj u k) ∧ upd pr (fl x) v p = u := fun k hk hkd => by
        obtain ⟨p, h1, h2, h3⟩ := h.comp u hu k hk
        have hy := hG u hu k hkd
        refine ⟨p, h1, ?_, ?_⟩
        · by_cases e : G.adj u k = x
          · rw [e, upd_same]; rw [e] at h2; omega
          · rw [upd_ne _ _ e]; exact h2
        · have : p ≠ fl x := by
            by_cases e : G.adj u k = x
            · rw [e] at h2; omega
            · exact hdis _ hy e p h1 h2
          rw [upd_ne _ _ this]; exact h3
      have hlt : k < G.deg u := by have := hC.step.leDeg hd u hu; omega
      by_cases eu : u = v
      · subst eu
        rw [upd_same] at hk
        by_cases ek : k = a
        · subst ek
          rw [hxx, upd_same]
          exact ⟨fl x, hlow, by omega, upd_same _ _ _⟩
        · exact hold k (by rw [hC.at_]; omega) hlt
      · rw [upd_ne _ _ eu] at hk
        exact hold k hk hlt
    lt := fun p hp => by
      by_cases e : p = fl x
      · rw [e, upd_same]; exact hv
      · rw [upd_ne _ _ e]; exact h.lt p hp }

theorem RI.ends {G : Gr} (hG : G.Ok) {ptr fl pr : Nat → Nat} (h : RI G ptr fl pr) (hp : ∀ u, u < G.n → ptr u = G.deg u) : Rev G (fst G) pr (fst G G.n) where
  mono := fun x hx => ⟨fst_mono G (Nat.le_succ x), fst_mono G hx⟩
  lt := h.lt
  iff := fun x y hx => by
    have hfl : ∀ z, z < G.n → fl z = fst G (z + 1) := fun z hz => by
      rw [h.fill z hz, fst_succ]
      unfold inn
      congr 1
      exact sumTo_congr (fun u hu => by rw [hp u hu])
    constructor
    · rintro ⟨⟨k, hk, e⟩, hy⟩
      obtain ⟨p, h1, h2, h3⟩ := h.comp y hy k (by rw [hp y hy]; exact hk)
      rw [e] at h1 h2
      rw [hfl x hx] at h2
      exact ⟨p, h1, h2, h3⟩
    · rintro ⟨p, h1, h2, rfl⟩
      refine ⟨h.sound x hx p h1 (by rw [hfl x hx]; exact h2), h.lt p ?_⟩
      have := fst_mono G (x := x + 1) (y := G.n) hx
      omega

end Go.Proofs.Qxb6601860a
