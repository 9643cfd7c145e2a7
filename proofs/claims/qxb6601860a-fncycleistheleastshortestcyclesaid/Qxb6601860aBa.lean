import Derived.Test.Qxb6601860aGb
namespace Go.Proofs.Qxb6601860a
set_option linter.unusedVariables false

/-! ### Shorter first, then by the nodes -/
def LexLt : List Nat → List Nat → Prop
  | x :: l, y :: m => x < y ∨ (x = y ∧ LexLt l m)
  | _, _ => False

theorem LexLt.trans : ∀ {a b c : List Nat}, LexLt a b → LexLt b c → LexLt a c
  | [], _, _, h, _ => by cases h
  | _ :: _, [], _, h, _ => by cases h
  | _ :: _, _ :: _, [], _, h => by cases h
  | x :: a, y :: b, z :: c, h, k => by
    rcases h with h | ⟨h, h'⟩ <;> rcases k with k | ⟨k, k'⟩
    · exact .inl (by omega)
    · exact .inl (by omega)
    · exact .inl (by omega)
    · exact .inr ⟨by omega, h'.trans k'⟩
theorem LexLt.irr : ∀ {a : List Nat}, ¬ LexLt a a
  | [], h => by cases h
  | x :: a, h => by
    rcases h with h | ⟨_, h⟩
    · omega
    · exact LexLt.irr h
theorem LexLt.app : ∀ {a b : List Nat} (c d : List Nat), LexLt a b → LexLt (a ++ c) (b ++ d)
  | [], _, _, _, h => by cases h
  | _ :: _, [], _, _, h => by cases h
  | x :: a, y :: b, c, d, h => by
    rcases h with h | ⟨h, h'⟩
    · exact .inl h
    · exact .inr ⟨h, h'.app c d⟩
theorem LexLt.tail : ∀ (l : List Nat) {a b : List Nat}, LexLt a b → LexLt (l ++ a) (l ++ b)
  | [], _, _, h => h
  | x :: l, a, b, h => .inr ⟨rfl, LexLt.tail l h⟩

def SLT (l m : List Nat) : Prop := l.length < m.length ∨ (l.length = m.length ∧ LexLt l m)
def SLE (l m : List Nat) : Prop := l = m ∨ SLT l m

theorem SLT.trans {a b c : List Nat} (h : SLT a b) (k : SLT b c) : SLT a c := by
  rcases h with h | ⟨h, h'⟩ <;> rcases k with k | ⟨k, k'⟩
  · exact .inl (by omega)
  · exact .inl (by omega)
  · exact .inl (by omega)
  · exact .inr ⟨by omega, h'.trans k'⟩
theorem SLT.irr {a : List Nat} : ¬ SLT a a := by
  rintro (h | ⟨_, h⟩)
  · omega
  · exact h.irr
theorem SLE.refl (a : List Nat) : SLE a a := .inl rfl
theorem SLE.trans {a b c : List Nat} (h : SLE a b) (k : SLE b c) : SLE a c := by
  rcases h with rfl | h
  · exact k
  · rcases k with rfl | k
    · exact .inr h
    · exact .inr (h.trans k)
theorem SLE.anti {a b : List Nat} (h : SLE a b) (k : SLE b a) : a = b := by
  rcases h with rfl | h
  · rfl
  · rcases k with rfl | k
    · rfl
    · exact absurd (h.trans k) SLT.irr
theorem SLT.snoc {a b : List Nat} (h : SLT a b) (x y : Nat) : SLT (a ++ [x]) (b ++ [y]) := by
  rcases h with h | ⟨h, h'⟩
  · exact .inl (by simp; omega)
  · exact .inr ⟨by simp; omega, h'.app _ _⟩
theorem SLE.snoc {a b : List Nat} (h : SLE a b) (x : Nat) : SLE (a ++ [x]) (b ++ [x]) := by
  rcases h with rfl | h
  · exact SLE.refl _
  · exact .inr (h.snoc x x)
theorem SLT.last (a : List Nat) {x y : Nat} (h : x < y) : SLT (a ++ [x]) (a ++ [y]) := .inr ⟨by simp, LexLt.tail a (.inl h)⟩
theorem SLE.pre (a b : List Nat) : SLE a (a ++ b) := by
  cases b with
  | nil => simp; exact SLE.refl _
  | cons x b => exact .inr (.inl (by simp))

/-! ### The way back through the parents -/
/-- The parents' way from i back to start: l holds the nodes from i on, without start. -/
def Chain (par : Nat → Nat) (start : Nat) : List Nat → Nat → Prop
  | [], i => i = start
  | x :: l, i => i = x ∧ x ≠ start ∧ par x ≠ 0 ∧ Chain par start l (par x - 1)

theorem Chain.congr {p q : Nat → Nat} {start : Nat} : ∀ {l : List Nat} {i : Nat}, (∀ x, x ∈ l → p x = q x) → Chain p start l i → Chain q start l i
  | [], i, _, h => h
  | x :: l, i, he, h => by
    obtain ⟨h1, h2, h3, h4⟩ := h
    have e := he x (by simp)
    refine ⟨h1, h2, by rw [← e]; exact h3, ?_⟩
    rw [← e]
    exact Chain.congr (fun y hy => he y (by simp [hy])) h4

def Asc (G : Gr) : Prop := ∀ v, v < G.n → ∀ k k', k < k' → k' < G.deg v → G.adj v k < G.adj v k'

/-- A closed walk through start: the nodes behind it. -/
def Closed (G : Gr) (start : Nat) (P : List Nat) : Prop := ∃ v, G.Path start P v ∧ G.Edge v start

/-- What is known of an arc that has been looked at. -/
def Looked (G : Gr) (comp : Nat → Nat) (start : Nat) (seq : List Nat) (pth : Nat → List Nat) (u y : Nat) : Prop :=
  y ≠ start ∧ (comp y = comp start → y ∈ seq ∧ (Asc G → SLE (pth y) (pth u ++ [y])))

structure BI (G : Gr) (comp : Nat → Nat) (start : Nat) (seq : List Nat) (par : Nat → Nat) (pth : Nat → List Nat) (d a : Nat) : Prop where
  hd : seq[0]? = some start
  count : cnt (fun v => decide (v ∈ seq)) G.n = seq.length
  lt : ∀ x, x ∈ seq → x < G.n
  same : ∀ x, x ∈ seq → comp x = comp start
  parOut : ∀ x, x ∉ seq → par x = 0
  parSt : par start = 0
  parIn : ∀ x, x ∈ seq → x ≠ start → par x ≠ 0
  parLe : ∀ x, par x ≤ G.n
  chain : ∀ x, x ∈ seq → Chain par start (pth x).reverse x
  mem : ∀ x, x ∈ seq → ∀ y, y ∈ pth x → y ∈ seq
  path : ∀ x, x ∈ seq → G.Path start (pth x) x
  pst : pth start = []
  len : ∀ x, x ∈ seq → (pth x).length < seq.length
  le : d ≤ seq.length
  done : ∀ u, u ∈ seq.take d → ∀ k, k < G.deg u → Looked G comp start seq pth u (G.adj u k)
  cur : ∀ i, seq[d]? = some i → ∀ k, k < a → Looked G comp start seq pth i (G.adj i k)
  src : Asc G → ∀ x, x ∈ seq → x ≠ start → ∃ u, pth x = pth u ++ [x] ∧ (u ∈ seq.take d ∨ (seq[d]? = some u ∧ ∃ k, k < a ∧ G.adj u k = x))
  sorted : Asc G → seq.Pairwise (fun x y => SLT (pth x) (pth y))

section
variable {G : Gr} {comp : Nat → Nat} {start : Nat} {seq : List Nat} {par : Nat → Nat} {pth : Nat → List Nat} {d a : Nat}

theorem BI.init (hs : start < G.n) : BI G comp start [start] (fun _ => 0) (fun _ => []) 0 0 where
  hd := rfl
  count := by
    have := cnt_add (p := fun _ => false) (q := fun v => decide (v ∈ [start])) (x := start) rfl (by simp) (fun i hi => by simp [hi]) (n := G.n)
    rw [this, if_pos hs, cnt_zero (fun _ _ => rfl)]
    rfl
  lt := fun x hx => by simp at hx; omega
  same := fun x hx => by simp at hx; rw [hx]
  parOut := fun _ _ => rfl
  parSt := rfl
  parIn := fun x hx h => by simp at hx; exact absurd hx h
  parLe := fun _ => Nat.zero_le _
  chain := fun x hx => by simp at hx; exact hx
  mem := fun x _ y hy => by cases hy
  path := fun x hx => by simp at hx; exact hx.symm
  pst := rfl
  len := fun x hx => by simp
  le := by simp
  done := fun u hu => by simp at hu
  cur := fun i _ k hk => by omega
  src := fun _ x hx h => by simp at hx; exact absurd hx h
  sorted := fun _ => List.pairwise_singleton _ _

theorem BI.start_mem (h : BI G comp start seq par pth d a) : start ∈ seq := List.mem_of_getElem? h.hd
theorem BI.length_le (h : BI G comp start seq par pth d a) : seq.length ≤ G.n := by rw [← h.count]; exact cnt_le _ _

/-- An arc to a node that is in the sequence, or that lies in another component. -/
theorem BI.skip (h : BI G comp start seq par pth d a) {i : Nat} (hi : seq[d]? = some i) (ha : a < G.deg i) (hn : G.adj i a ≠ start)
    (hc : par (G.adj i a) ≠ 0 ∨ comp (G.adj i a) ≠ comp start) : BI G comp start seq par pth d (a + 1) :=
  { h with
    cur := fun i' hi' k hk => by
      obtain rfl : i = i' := by rw [hi] at hi'; cases hi'; rfl
      rcases Nat.lt_or_ge k a with hlt | hge
      · exact h.cur i hi k hlt
      · obtain rfl : k = a := by omega
        refine ⟨hn, fun hcs => ?_⟩
        have hm : G.adj i k ∈ seq := by
          rcases hc with hp | hp
          · rcases Classical.em (G.adj i k ∈ seq) with hm | hm
            · exact hm
            · exact absurd (h.parOut _ hm) hp
          · exact absurd hcs hp
        refine ⟨hm, fun hA => ?_⟩
        obtain ⟨u, hu, hu'⟩ := h.src hA _ hm hn
        rw [hu]
        rcases hu' with hu' | ⟨hu', _⟩
        · have hs := h.sorted hA
          rw [← List.take_append_drop d seq, List.pairwise_append] at hs
          have : i ∈ seq.drop d := by
            have : (seq.drop d)[0]? = some i := by simp [hi]
            exact List.mem_of_getElem? this
          exact .inr ((hs.2.2 u hu' i this).snoc _ _)
        · rw [hi] at hu'; cases hu'
          exact SLE.refl _
    src := fun hA x hx hne => by
      obtain ⟨u, hu, hu'⟩ := h.src hA x hx hne
      refine ⟨u, hu, ?_⟩
      rcases hu' with h' | ⟨e, k, hk, he⟩
      · exact .inl h'
      · exact .inr ⟨e, k, by omega, he⟩ }

theorem Looked.mono {u y j : Nat} {q : List Nat} (h : Looked G comp start seq pth u y) (hj : j ∉ seq) (hu : u ∈ seq) : Looked G comp start (seq ++ [j]) (fun v => if v = j then q else pth v) u y := by
  refine ⟨h.1, fun hc => ?_⟩
  obtain ⟨h1, h2⟩ := h.2 hc
  refine ⟨by simp [h1], fun hA => ?_⟩
  have e1 : y ≠ j := fun e => hj (e ▸ h1)
  have e2 : u ≠ j := fun e => hj (e ▸ hu)
  simp only [if_neg e1, if_neg e2]
  exact h2 hA

theorem BI.push (h : BI G comp start seq par pth d a) (hG : G.Ok) {i : Nat} (hi : seq[d]? = some i) (ha : a < G.deg i) (hn : G.adj i a ≠ start)
    (hp : par (G.adj i a) = 0) (hc : comp (G.adj i a) = comp start) :
    BI G comp start (seq ++ [G.adj i a]) (upd par (G.adj i a) (i + 1)) (fun v => if v = G.adj i a then pth i ++ [G.adj i a] else pth v) d (a + 1) := by
  have him : i ∈ seq := List.mem_of_getElem? hi
  have hdl : d < seq.length := by
    rcases Nat.lt_or_ge d seq.length with h' | h'
    · exact h'
    · rw [List.getElem?_eq_none h'] at hi; cases hi
  have hin := h.lt i him
  have hjn : G.adj i a < G.n := hG i hin a ha
  have hj : G.adj i a ∉ seq := fun hm => h.parIn _ hm hn hp
  have hedge : G.Edge i (G.adj i a) := ⟨a, ha, rfl⟩
  have hlk : ∀ k, k < a → Looked G comp start seq pth i (G.adj i k) := h.cur i hi
  generalize hjj : G.adj i a = j at *
  have hij : i ≠ j := fun e => hj (e ▸ him)
  have hne : ∀ x, x ∈ seq → x ≠ j := fun x hx e => hj (e ▸ hx)
  have htk : (seq ++ [j]).take d = seq.take d := by rw [List.take_append_of_le_length (by omega)]
  have hgd : (seq ++ [j])[d]? = some i := by rw [List.getElem?_append_left hdl]; exact hi
  have hmem : ∀ x, x ∈ seq ++ [j] → x ∈ seq ∨ x = j := fun x hx => by simpa using hx
  have hsorted : Asc G → ∀ x, x ∈ seq → SLT (pth x) (pth i ++ [j]) := fun hA x hx => by
    rcases Classical.em (x = start) with e | e
    · subst e; rw [h.pst]; exact .inl (by simp)
    · obtain ⟨u, hu, hu'⟩ := h.src hA x hx e
      rw [hu]
      rcases hu' with hu' | ⟨hu', k, hk, he⟩
      · have hs := h.sorted hA
        rw [← List.take_append_drop d seq, List.pairwise_append] at hs
        have : i ∈ seq.drop d := by
          have : (seq.drop d)[0]? = some i := by simp [hi]
          exact List.mem_of_getElem? this
        exact (hs.2.2 u hu' i this).snoc _ _
      · rw [hi] at hu'; cases hu'
        have := hA i hin k a hk ha
        rw [he, hjj] at this
        exact SLT.last _ this
  exact {
    hd := by rw [List.getElem?_append_left (by omega)]; exact h.hd
    count := by
      rw [cnt_add (p := fun v => decide (v ∈ seq)) (q := fun v => decide (v ∈ seq ++ [j])) (x := j) (by simp [hj]) (by simp) (fun v hv => by simp [hv]), h.count, if_pos hjn]
      simp
    lt := fun x hx => (hmem x hx).elim (h.lt x) (fun e => e ▸ hjn)
    same := fun x hx => (hmem x hx).elim (h.same x) (fun e => e ▸ hc)
    parOut := fun x hx => by
      simp at hx
      rw [upd_ne _ _ hx.2]
      exact h.parOut x hx.1
    parSt := by rw [upd_ne _ _ (Ne.symm hn)]; exact h.parSt
    parIn := fun x hx hx' => by
      rcases hmem x hx with hm | rfl
      · rw [upd_ne _ _ (hne x hm)]; exact h.parIn x hm hx'
      · rw [upd_same]; omega
    parLe := fun x => by
      by_cases e : x = j
      · subst e; rw [upd_same]; omega
      · rw [upd_ne _ _ e]; exact h.parLe x
    chain := fun x hx => by
      have hold : ∀ y, y ∈ seq → Chain (upd par j (i + 1)) start (pth y).reverse y := fun y hy =>
        Chain.congr (fun z hz => by rw [upd_ne _ _ (hne z (h.mem y hy z (by simpa using hz)))]) (h.chain y hy)
      rcases hmem x hx with hm | rfl
      · simp only [if_neg (hne x hm)]; exact hold x hm
      · simp only [if_pos]
        rw [List.reverse_append]
        exact ⟨rfl, hn, by rw [upd_same]; omega, by rw [upd_same]; exact hold i him⟩
    mem := fun x hx y hy => by
      rcases hmem x hx with hm | rfl
      · simp only [if_neg (hne x hm)] at hy; simp [h.mem x hm y hy]
      · simp at hy
        rcases hy with hy | hy
        · simp [h.mem i him y hy]
        · simp [hy]
    path := fun x hx => by
      rcases hmem x hx with hm | rfl
      · simp only [if_neg (hne x hm)]; exact h.path x hm
      · simp only [if_pos]
        exact (h.path i him).app ⟨hedge, rfl⟩
    pst := by simp only [if_neg (Ne.symm hn)]; exact h.pst
    len := fun x hx => by
      rcases hmem x hx with hm | rfl
      · simp only [if_neg (hne x hm)]; have := h.len x hm; simp; omega
      · have := h.len i him; simp; omega
    le := by simp; have := h.le; omega
    done := fun u hu k hk => by
      rw [htk] at hu
      exact (h.done u hu k hk).mono hj (List.mem_of_mem_take hu)
    cur := fun i' hi' k hk => by
      obtain rfl : i = i' := by rw [hgd] at hi'; cases hi'; rfl
      rcases Nat.lt_or_ge k a with hlt | hge
      · exact (hlk k hlt).mono hj him
      · obtain rfl : k = a := by omega
        rw [hjj]
        refine ⟨hn, fun _ => ⟨by simp, fun _ => ?_⟩⟩
        simp only [if_pos, if_neg hij]
        exact SLE.refl _
    src := fun hA x hx hxs => by
      rw [htk, hgd]
      rcases hmem x hx with hm | rfl
      · obtain ⟨u, hu, hu'⟩ := h.src hA x hm hxs
        have hum : u ∈ seq := hu'.elim List.mem_of_mem_take (fun e => List.mem_of_getElem? e.1)
        refine ⟨u, by simp only [if_neg (hne x hm), if_neg (hne u hum)]; exact hu, ?_⟩
        rcases hu' with h' | ⟨e, k, hk, he⟩
        · exact .inl h'
        · exact .inr ⟨by rw [hi] at e; exact e, k, by omega, he⟩
      · exact ⟨i, by simp only [if_pos, if_neg hij], .inr ⟨rfl, a, by omega, hjj⟩⟩
    sorted := fun hA => by
      rw [List.pairwise_append]
      refine ⟨?_, List.pairwise_singleton _ _, fun x hx y hy => ?_⟩
      · have := h.sorted hA
        refine List.Pairwise.imp_of_mem ?_ this
        intro x y hx hy hxy
        simp only [if_neg (hne x hx), if_neg (hne y hy)]; exact hxy
      · simp at hy; subst hy
        simp only [if_pos, if_neg (hne x hx)]
        exact hsorted hA x hx }

theorem BI.next (h : BI G comp start seq par pth d a) {i : Nat} (hi : seq[d]? = some i) (ha : G.deg i ≤ a) : BI G comp start seq par pth (d + 1) 0 := by
  have hdl : d < seq.length := by
    rcases Nat.lt_or_ge d seq.length with h' | h'
    · exact h'
    · rw [List.getElem?_eq_none h'] at hi; cases hi
  have htk : seq.take (d + 1) = seq.take d ++ [i] := by rw [List.take_add_one, hi]; rfl
  exact { h with
    le := hdl
    done := fun u hu k hk => by
      rw [htk] at hu
      simp only [List.mem_append, List.mem_singleton] at hu
      rcases hu with hu | rfl
      · exact h.done u hu k hk
      · exact h.cur u hi k (by omega)
    cur := fun i' _ k hk => by omega
    src := fun hA x hx hne => by
      obtain ⟨u, hu, hu'⟩ := h.src hA x hx hne
      refine ⟨u, hu, .inl ?_⟩
      rw [htk]
      simp only [List.mem_append, List.mem_singleton]
      rcases hu' with hu' | ⟨hu', _⟩
      · exact .inl hu'
      · rw [hi] at hu'; cases hu'; exact .inr rfl }

/-- A closed walk leaves the nodes that are done with. -/
theorem BI.leaves (h : BI G comp start seq par pth d a) (hG : G.Ok) (hC : Comps G comp) : ∀ {P A : List Nat} {u : Nat}, u ∈ seq → G.Reach start u → (Asc G → SLE (pth u) A) → (∃ v, G.Path u P v ∧ G.Edge v start) →
    ∃ t, t ∈ seq ∧ t ∉ seq.take d ∧ (Asc G → SLE (pth t) (A ++ P))
  | P, A, u, hu, hr, hle, hP => by
    rcases Classical.em (u ∈ seq.take d) with hd | hd
    · cases P with
      | nil =>
        obtain ⟨v, e, k, hk, he⟩ := hP
        have e : u = v := e
        subst e
        exact absurd he (h.done u hd k hk).1
      | cons x P =>
        obtain ⟨v, ⟨⟨k, hk, he⟩, hp⟩, hv⟩ := hP
        have hux : G.Edge u x := ⟨k, hk, he⟩
        have hl := h.done u hd k hk
        rw [he] at hl
        have hsn := h.lt start h.start_mem
        have hrx : G.Reach start x := hr.trans (Gr.Reach.edge hux)
        have hxs : G.Reach x start := Gr.Reach.trans (v := v) ⟨P, hp⟩ (Gr.Reach.edge hv)
        have hc : comp x = comp start := (hC.iff x start (hrx.lt hG hsn) hsn).2 ⟨hxs, hrx⟩
        obtain ⟨hm, hs⟩ := hl.2 hc
        obtain ⟨t, h1, h2, h3⟩ := BI.leaves h hG hC (P := P) (A := A ++ [x]) hm hrx (fun hA => (hs hA).trans ((hle hA).snoc x)) ⟨v, hp, hv⟩
        exact ⟨t, h1, h2, fun hA => by have := h3 hA; simpa using this⟩
    · exact ⟨u, hu, hd, fun hA => (hle hA).trans (SLE.pre _ _)⟩

/-- The search has found the way back. -/
theorem BI.found (h : BI G comp start seq par pth d a) (hG : G.Ok) (hC : Comps G comp) {i : Nat} (hi : seq[d]? = some i) (he : G.Edge i start) :
    Closed G start (pth i) ∧ (Asc G → ∀ P, Closed G start P → SLE (pth i) P) := by
  have him : i ∈ seq := List.mem_of_getElem? hi
  refine ⟨⟨i, h.path i him, he⟩, fun hA P hP => ?_⟩
  obtain ⟨t, h1, h2, h3⟩ := h.leaves hG hC (P := P) (A := []) h.start_mem (Gr.Reach.refl _) (fun _ => by rw [h.pst]; exact SLE.refl _) hP
  refine SLE.trans ?_ (h3 hA)
  have hs := h.sorted hA
  have htd : t ∈ seq.drop d := by
    rw [← List.take_append_drop d seq] at h1
    simp only [List.mem_append] at h1
    exact h1.resolve_left h2
  have hdrop : seq.drop d = i :: seq.drop (d + 1) := by
    have hdl : d < seq.length := by
      rcases Nat.lt_or_ge d seq.length with h' | h'
      · exact h'
      · rw [List.getElem?_eq_none h'] at hi; cases hi
    rw [List.drop_eq_getElem_cons hdl]
    rw [List.getElem?_eq_getElem hdl] at hi
    cases hi; rfl
  rw [← List.take_append_drop d seq, List.pairwise_append, hdrop] at hs
  rw [hdrop] at htd
  simp only [List.mem_cons] at htd
  rcases htd with rfl | htd
  · exact SLE.refl _
  · have := hs.2.1
    rw [List.pairwise_cons] at this
    exact .inr (this.1 t htd)

/-- The queue does not run out. -/
theorem BI.never (h : BI G comp start seq par pth d a) (hG : G.Ok) (hC : Comps G comp) (hd : seq.length ≤ d) {P : List Nat} (hP : Closed G start P) : False := by
  obtain ⟨t, h1, h2, h3⟩ := h.leaves hG hC (P := P) (A := pth start) h.start_mem (Gr.Reach.refl _) (fun _ => SLE.refl _) hP
  rw [List.take_of_length_le hd] at h2
  exact h2 h1

/-- A component with two nodes has a closed walk. -/
theorem closed_of_two {z : Nat} (hne : z ≠ start) (h1 : G.Reach start z) (h2 : G.Reach z start) : ∃ P, Closed G start P := by
  obtain ⟨l, hl⟩ := h1
  obtain ⟨m, hm⟩ := h2
  have key : ∀ {m : List Nat} {z : Nat}, z ≠ start → G.Path z m start → ∃ q v, G.Path z q v ∧ G.Edge v start := by
    intro m
    induction m with
    | nil => intro z hz h; exact absurd h hz
    | cons x m ih =>
      intro z hz h
      rcases Classical.em (x = start) with e | e
      · exact ⟨[], z, rfl, e ▸ h.1⟩
      · obtain ⟨q, v, hq, hv⟩ := ih e h.2
        exact ⟨x :: q, v, ⟨h.1, hq⟩, hv⟩
  obtain ⟨q, v, hq, hv⟩ := key hne hm
  exact ⟨l ++ q, v, hl.app hq, hv⟩
end
end Go.Proofs.Qxb6601860a
