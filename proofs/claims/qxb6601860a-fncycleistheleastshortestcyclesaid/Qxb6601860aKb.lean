import Derived.Test.Qxb6601860aKa
import Derived.Test.Qxb6601860aWg
namespace Go.Proofs.Qxb6601860a
open Go.RowKit
set_option linter.unusedVariables false

theorem outst_le {G : Gr} (hS : Small G) (ptr : Nat → Nat) (x : Nat) : outst G ptr x ≤ 68719476736 := by
  unfold outst
  have := sumTo_bound (f := fun u => restTo G u (ptr u) x) (b := 1048576) (n := G.n) (fun u hu => by
    simp only [restTo]
    split
    · omega
    · exact Nat.le_trans (cnt_le _ _) (hS.deg u hu))
  have : G.n * 1048576 ≤ 65536 * 1048576 := Nat.mul_le_mul_right _ hS.n
  omega

/-- The graph that the lists say. -/
def graphOf (n : Nat) (D : Nat → Nat) (F : Nat → Nat → Int) : Gr := ⟨n, D, fun v k => (F v k).toNat⟩

theorem Lists.inMem {w : World} {a : Option Addr} {n : Nat} {D : Nat → Nat} {F : Nat → Nat → Int} {asc : Bool} (h : Lists w a n D F) (hr : ∀ v, v < n → InRange n D F asc v (D v)) : InMem w a (graphOf n D F) := by
  intro v hv
  obtain ⟨b, o, x, c, h1, h2, h3, h4⟩ := h v hv
  refine ⟨b, o, x, c, h1, h2, h3, h4.congr (fun k hk => ?_)⟩
  have := (hr v hv k hk).1
  show F v k = (((F v k).toNat : Nat) : Int)
  omega

theorem graphOf_small {n : Nat} {D : Nat → Nat} {F : Nat → Nat → Int} {asc : Bool} (hn : n ≤ 65536) (hD : ∀ v, v < n → D v ≤ 1048576) (hr : ∀ v, v < n → InRange n D F asc v (D v)) : Small (graphOf n D F) where
  ok := fun v hv k hk => by
    have := hr v hv k hk
    show (F v k).toNat < n
    omega
  n := hn
  deg := hD

/-- How far the count has come: all arcs of the nodes below j, and a arcs of j. -/
structure CI (G : Gr) (ptr : Nat → Nat) (j a : Nat) : Prop where
  lo : ∀ u, u < j → ptr u = G.deg u
  at_ : ptr j = a
  hi : ∀ u, j < u → ptr u = 0
theorem CI.step {G : Gr} {ptr : Nat → Nat} {j a : Nat} (h : CI G ptr j a) : CI G (upd ptr j (a + 1)) j (a + 1) :=
  ⟨fun u hu => by rw [upd_ne _ _ (by omega)]; exact h.lo u hu, upd_same _ _ _, fun u hu => by rw [upd_ne _ _ (by omega)]; exact h.hi u hu⟩
theorem CI.next {G : Gr} {ptr : Nat → Nat} {j : Nat} (h : CI G ptr j (G.deg j)) : CI G ptr (j + 1) 0 :=
  ⟨fun u hu => by
    by_cases e : u = j
    · subst e; exact h.at_
    · exact h.lo u (by omega), h.hi _ (by omega), fun u hu => h.hi u (by omega)⟩
theorem CI.le {G : Gr} (hS : Small G) {ptr : Nat → Nat} {j a : Nat} (h : CI G ptr j a) (ha : a ≤ G.deg j) : ∀ u, u < G.n → ptr u ≤ 1048576 := fun u hu => by
  rcases Nat.lt_trichotomy u j with hl | he | hg
  · rw [h.lo u hl]; exact hS.deg u hu
  · subst he; rw [h.at_]; exact Nat.le_trans ha (hS.deg u hu)
  · rw [h.hi u hg]; omega

/-- The row of the counts. -/
structure CM (n : Nat) (w3 : World) (I : Nat → Nat) (wr : World) : Prop where
  row : wr.rowIs w3.heap.size 3 n (fun x => .int .i64 ((I x : Nat) : Int))
  bel : Below w3.heap.size w3 wr

theorem CM.set {n : Nat} {w3 : World} {I J : Nat → Nat} {wr : World} (h : CM n w3 I wr) (x z : Nat) (hJ : ∀ y, y < n → J y = if y = x then z else I y) : CM n w3 J (wr.setCell ⟨w3.heap.size, x, none⟩ (.int .i64 (z : Nat))) :=
  ⟨(h.row.set x _).congr (fun c hc => by
    show (if c = x then Value.int .i64 (z : Nat) else _) = .int .i64 ((J c : Nat))
    rw [hJ c hc]; split <;> rfl), h.bel.setCell (Nat.le_refl _) _⟩

/-- .. and the list of those that are ready. -/
structure KM (n : Nat) (w3 : World) (I : Nat → Nat) (v : Value) (R : List Nat) (wr : World) : Prop where
  row : wr.rowIs w3.heap.size 3 n (fun x => .int .i64 ((I x : Nat) : Int))
  own : wr.ownsRow (w3.heap.size + 1) 3 1 v R.length (nums R)
  bel : Below w3.heap.size w3 wr

theorem KM.congr {n : Nat} {w3 : World} {I J : Nat → Nat} {v : Value} {R : List Nat} {wr : World} (h : KM n w3 I v R wr) (hJ : ∀ y, y < n → J y = I y) : KM n w3 J v R wr :=
  ⟨h.row.congr (fun c hc => by rw [hJ c hc]), h.own, h.bel⟩

theorem KM.set {n : Nat} {w3 : World} {I J : Nat → Nat} {v : Value} {R : List Nat} {wr : World} (h : KM n w3 I v R wr) (x z : Nat) (hJ : ∀ y, y < n → J y = if y = x then z else I y) : KM n w3 J v R (wr.setCell ⟨w3.heap.size, x, none⟩ (.int .i64 (z : Nat))) :=
  ⟨(h.row.set x _).congr (fun c hc => by
    show (if c = x then Value.int .i64 (z : Nat) else _) = .int .i64 ((J c : Nat))
    rw [hJ c hc]; split <;> rfl), owns_of_block h.own (fun k hk => sc_other _ _ _ _ (by have := (h.own.lt k hk).1; omega)), h.bel.setCell (Nat.le_refl _) _⟩

theorem KM.push {n : Nat} {w3 : World} {I : Nat → Nat} {v v' : Value} {R : List Nat} {wr w' : World} {O : Obj} {y : Nat} (h : KM n w3 I v R wr) (ho : w'.ownsRow (w3.heap.size + 1) 3 1 v' (R.length + 1) (nums R ++ [.int .i64 (y : Nat)]))
    (hg : (wr.alloc O).grownBy w' v.ownBlock) : KM n w3 I v' (R ++ [y]) w' := by
  have hl := h.row.lt
  refine ⟨h.row.of_block ?_, by rw [nums_app, List.length_append]; exact ho, ?_⟩
  · rw [hg.block w3.heap.size (by simp; omega) (fun e => by have := (h.own.lt _ e.symm).1; omega)]
    exact Below.heap_alloc _ _ _ hl
  · exact (h.bel.alloc h.bel.size _).grown hg (by have := h.bel.size; simp; omega) (fun k hk => by have := (h.own.lt k hk).1; omega)

theorem owns_list {w : World} {base : Nat} {v : Value} {R : List Nat} (h : w.ownsRow base 3 1 v R.length (nums R)) (hp : 0 < R.length) :
    ∃ g cap, v = .slice (some ⟨g, 0, none⟩) R.length cap ∧ ∀ k x, R[k]? = some x → w.cell? ⟨g, k, none⟩ = some (.int .i64 (x : Nat)) := by
  obtain ⟨m, hm⟩ : ∃ m, R.length = m + 1 := ⟨R.length - 1, by omega⟩
  have h' := h
  rw [hm] at h'
  obtain ⟨g, cap, cur, rfl, _⟩ := owns_some h'
  refine ⟨g, cap, by rw [hm], fun k x hx => ?_⟩
  exact cell_owned h' (by simp [nums, hx])

def LawPost (w : World) (e : Ending) (w' : World) : Prop := e = .returned (.bool true) ∧ Below w.heap.size w w'

end Go.Proofs.Qxb6601860a
