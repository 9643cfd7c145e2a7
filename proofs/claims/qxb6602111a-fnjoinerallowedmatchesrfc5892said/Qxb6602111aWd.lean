import Derived.Test.Qxb6602111aWc
namespace Go.Proofs.Qxb6602111a
open Go.RowKit
set_option linter.unusedVariables false

def jn (m : Nat) : Nat := 64 * jt m
theorem jn_any (w : World) (m : Nat) (hm : m < 4294967296) : Calls Try.prog 41 #[.int .u32 m] w fun e w' => e = .returned (.int .u32 (jn m)) ∧ w' = w := joining_any w m hm
theorem jn_to (w : World) (m : Nat) (hm : m < 4294967296) : Calls Try.prog 41 #[.int .u32 m] w fun e w' => e = .returned (.int .u32 (jn m)) ∧ w = w' := (joining_any w m hm).mono fun _ _ h => ⟨h.1, h.2.symm⟩
theorem jn_eq (m c : Nat) : (((jn m : Nat) : Int) == ((64 * c : Nat) : Int)) = decide (jt m = c) := by
  unfold jn
  by_cases h : jt m = c
  · simp [h]
  · simp only [h, decide_false, beq_eq_false_iff_ne]; omega

theorem left_iff {P : Nat → Nat} {b i : Nat} (hb : b ≤ i) (h : AllT P b i) (hs : b = 0 ∨ jt (P (b - 1)) ≠ 4) : Lj P i ↔ 0 < b ∧ (jt (P (b - 1)) = 1 ∨ jt (P (b - 1)) = 3) := by
  constructor
  · rintro ⟨k, hk, hj, hA⟩
    have hkb : k < b := by
      rcases Nat.lt_or_ge k b with h' | h'
      · exact h'
      · have := h k h' hk; omega
    have e : k = b - 1 := by
      rcases Nat.lt_or_ge k (b - 1) with h' | h'
      · have := hA (b - 1) (by omega) (by omega); omega
      · omega
    exact ⟨by omega, e ▸ hj⟩
  · rintro ⟨h0, hj⟩
    exact ⟨b - 1, by omega, hj, fun k h1 h2 => h k (by omega) h2⟩

theorem right_iff {P : Nat → Nat} {n a i : Nat} (ha : i < a) (han : a ≤ n) (h : AllT P (i + 1) a) (hs : a = n ∨ jt (P a) ≠ 4) : Rj P n i ↔ a < n ∧ (jt (P a) = 2 ∨ jt (P a) = 3) := by
  constructor
  · rintro ⟨k, hk, hkn, hj, hA⟩
    have hka : a ≤ k := by
      rcases Nat.lt_or_ge k a with h' | h'
      · have := h k (by omega) h'; omega
      · exact h'
    have e : k = a := by
      rcases Nat.lt_or_ge a k with h' | h'
      · have := hA a (by omega) h'; omega
      · omega
    exact ⟨by omega, e ▸ hj⟩
  · rintro ⟨h0, hj⟩
    exact ⟨a, ha, h0, hj, h⟩

/-- It returns a bool that says p; nothing that was there has turned. -/
def SaysB (w : World) (p : Prop) (e : Ending) (w' : World) : Prop := ∃ r, e = .returned (.bool r) ∧ Below w.heap.size w w' ∧ (r = true ↔ p)

set_option maxHeartbeats 1000000 in
theorem joiner_virama (w : World) (a0 a1 : Option Addr) (n c0 c1 : Nat) (L : Nat → Int) (P : Nat → Nat) (k : Nat) (hn : n ≤ 65536) (hW : Words w a1 n P) (hi : k + 1 < n) (h9 : ccc (P k) = 9) :
    Calls Try.prog 33 #[.slice a0 n c0, .slice a1 n c1, .int .i64 (k + 1 : Nat)] w (SaysB w (Joins L P n (k + 1))) := by
  have hP := hW.2 k (by omega)
  obtain ⟨b, o, e, _, h1⟩ := hW.1 k (by omega)
  have q9 : ((ccc (P k) : Int) == 9) = true := by rw [h9]; rfl
  have H9 : Hid (ccc (P k) = 9) := h9
  clear h9 hW
  subst e
  go_enter Try.func33, Try.ntmps33
  go_wp2_with fail
  refine (ccc_any _ _ hP).mono ?_
  rintro e w' ⟨rfl, rfl⟩
  go_wp2
  go_ret
  exact ⟨_, rfl, Below.refl _ _, ⟨fun _ => .inl ⟨by omega, by rw [Nat.add_sub_cancel]; exact H9.out⟩, fun _ => rfl⟩⟩

end Go.Proofs.Qxb6602111a
