import Derived.Test.Qxb6601860aBa
namespace Go.Proofs.Qxb6601860a
set_option linter.unusedVariables false

theorem cnt_pos {p : Nat → Bool} : ∀ {n x : Nat}, x < n → p x = true → 0 < cnt p n
  | 0, x, h, _ => by omega
  | n + 1, x, h, hp => by
    simp only [cnt]
    by_cases e : x = n
    · subst e; rw [hp]; simp
    · have := cnt_pos (p := p) (n := n) (x := x) (by omega) hp; omega

theorem cnt_ex {p : Nat → Bool} {n : Nat} (h : 0 < cnt p n) : ∃ x, x < n ∧ p x = true := by
  apply Classical.byContradiction
  intro hn
  rw [cnt_zero (p := p) (n := n)] at h
  · omega
  · intro i hi
    cases e : p i with
    | false => rfl
    | true => exact absurd ⟨i, hi, e⟩ hn

/-- Node v lies on a cycle of two nodes or more. -/
def Multi (G : Gr) (v : Nat) : Prop := ∃ z, z < G.n ∧ z ≠ v ∧ G.Reach v z ∧ G.Reach z v

def sizeOf (comp : Nat → Nat) (j c : Nat) : Nat := cnt (fun v => decide (comp v = c)) j

theorem sizeOf_next (comp : Nat → Nat) (j c : Nat) : sizeOf comp (j + 1) c = if c = comp j then sizeOf comp j (comp j) + 1 else sizeOf comp j c := by
  unfold sizeOf
  simp only [cnt]
  by_cases e : c = comp j
  · subst e; simp
  · rw [if_neg e, if_neg (by simp; exact fun h => e h.symm)]
    rfl

theorem sizeOf_le (comp : Nat → Nat) (j c : Nat) : sizeOf comp j c ≤ j := cnt_le _ _

theorem size_multi {G : Gr} {comp : Nat → Nat} (hC : Comps G comp) {v : Nat} (hv : v < G.n) : 1 < sizeOf comp G.n (comp v) ↔ Multi G v := by
  have h1 : sizeOf comp G.n (comp v) = cnt (fun u => decide (comp u = comp v) && decide (u ≠ v)) G.n + 1 := by
    unfold sizeOf
    rw [cnt_add (p := fun u => decide (comp u = comp v) && decide (u ≠ v)) (q := fun u => decide (comp u = comp v)) (x := v) (by simp) (by simp) (fun i hi => by simp [hi]), if_pos hv]
  rw [h1]
  constructor
  · intro h
    obtain ⟨z, hz, hp⟩ := cnt_ex (by omega : 0 < cnt (fun u => decide (comp u = comp v) && decide (u ≠ v)) G.n)
    simp at hp
    have := (hC.iff z v hz hv).1 hp.1
    exact ⟨z, hz, hp.2, this.2, this.1⟩
  · rintro ⟨z, hz, hne, h1, h2⟩
    have := cnt_pos (p := fun u => decide (comp u = comp v) && decide (u ≠ v)) hz (by simp [hne]; exact (hC.iff z v hz hv).2 ⟨h2, h1⟩)
    omega

end Go.Proofs.Qxb6601860a
