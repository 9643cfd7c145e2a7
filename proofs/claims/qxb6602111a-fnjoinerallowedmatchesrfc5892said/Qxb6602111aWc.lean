import Derived.Test.Qxb6602111aWb
namespace Go.Proofs.Qxb6602111a
open Go.RowKit
set_option linter.unusedVariables false

/-- RFC 5892, A.1 and A.2, as the model has it. -/
def Joins (L : Nat → Int) (P : Nat → Nat) (n i : Nat) : Prop :=
  (0 < i ∧ ccc (P (i - 1)) = 9) ∨ (L i = 8204 ∧ Lj P i ∧ Rj P n i)

set_option maxHeartbeats 1000000 in
theorem model_any (w : World) (a0 a1 : Option Addr) (n c0 c1 : Nat) (L : Nat → Int) (P : Nat → Nat) (i : Nat) (hn : n ≤ 65536) (hL : Row .i32 w a0 n L) (hW : Words w a1 n P) (hi : i < n) :
    Calls Try.prog 24 #[.slice a0 n c0, .slice a1 n c1, .int .i64 i] w (Says w (Joins L P n i)) := by
  have HW : Hid (Words w a1 n P) := hW
  obtain ⟨b0, o0, e0, _, hl⟩ := hL i hi
  clear hW hL
  subst e0
  by_cases h0 : 0 < i ∧ ccc (P (i - 1)) = 9
  · obtain ⟨hi0, h9⟩ := h0
    obtain ⟨k, rfl⟩ : ∃ k, i = k + 1 := ⟨i - 1, by omega⟩
    have hP := HW.out.2 k (by omega)
    obtain ⟨b, o, e, _, h1⟩ := HW.out.1 k (by omega)
    have q9 : ((ccc (P k) : Int) == 9) = true := by
      rw [Nat.add_sub_cancel] at h9
      rw [h9]; rfl
    have H9 : Hid (ccc (P (k + 1 - 1)) = 9) := h9
    clear h9
    subst e
    go_enter Try.func24, Try.ntmps24
    go_wp2_with (go_at_call 26; refine (b1ccc_any _ _ hP).mono ?_; rintro e w' ⟨rfl, rfl⟩)
    go_ret
    exact ⟨_, rfl, rfl, ⟨fun _ => .inl ⟨by omega, H9.out⟩, fun _ => rfl⟩⟩
  have HNO : Hid (Joins L P n i → (L i = 8204 ∧ Lj P i ∧ Rj P n i)) := fun h => h.resolve_left h0
  by_cases hi0 : 0 < i
  · obtain ⟨k, rfl⟩ : ∃ k, i = k + 1 := ⟨i - 1, by omega⟩
    have hP := HW.out.2 k (by omega)
    obtain ⟨b, o, e, _, h1⟩ := HW.out.1 k (by omega)
    have q9 : ((ccc (P k) : Int) == 9) = false := by
      rw [beq_eq_false_iff_ne]
      intro h
      exact h0 ⟨by omega, by rw [Nat.add_sub_cancel]; omega⟩
    clear h0 hi0
    subst e
    by_cases hz : L (k + 1) = 8204
    · have q8 : (L (k + 1) != 8204) = false := by simp [hz]
      have HZ : Hid (L (k + 1) = 8204) := hz
      clear hz
      go_enter Try.func24, Try.ntmps24
      go_wp2_with fail
      refine (b1ccc_any _ _ hP).mono ?_
      rintro e w' ⟨rfl, rfl⟩
      go_wp2_with fail
      refine (leftJoins_any _ _ n c1 P _ hn HW.out hi).mono ?_
      rintro e w1 ⟨r1, rfl, rfl, hr1⟩
      have HR1 := (show Hid (r1 = true ↔ Lj P (k + 1)) from hr1)
      clear hr1
      cases r1 with
      | false =>
        go_wp2
        go_ret
        exact ⟨_, rfl, rfl, ⟨fun h => (by cases h), fun h => absurd (HR1.out.2 (HNO.out h).2.1) (by simp)⟩⟩
      | true =>
        go_wp2_with fail
        refine (rightJoins_any _ _ n c1 P _ hn HW.out hi).mono ?_
        rintro e w2 ⟨r2, rfl, rfl, hr2⟩
        have HR2 := (show Hid (r2 = true ↔ Rj P n (k + 1)) from hr2)
        clear hr2
        go_wp2
        go_ret
        exact ⟨_, rfl, rfl, ⟨fun h => .inr ⟨HZ.out, HR1.out.1 (by simp), HR2.out.1 h⟩, fun h => HR2.out.2 (HNO.out h).2.2⟩⟩
    · have q8 : (L (k + 1) != 8204) = true := by rw [bne_iff_ne]; exact hz
      have HZ : Hid (¬ L (k + 1) = 8204) := hz
      clear hz
      go_enter Try.func24, Try.ntmps24
      go_wp2_with fail
      refine (b1ccc_any _ _ hP).mono ?_
      rintro e w' ⟨rfl, rfl⟩
      go_wp2
      go_ret
      exact ⟨_, rfl, rfl, ⟨fun h => (by cases h), fun h => absurd (HNO.out h).1 HZ.out⟩⟩
  · have hg : decide ((0 : Int) < (i : Int)) = false := by simp; omega
    clear h0
    by_cases hz : L i = 8204
    · have q8 : (L i != 8204) = false := by simp [hz]
      have HZ : Hid (L i = 8204) := hz
      clear hz
      go_enter Try.func24, Try.ntmps24
      go_wp2_with fail
      refine (leftJoins_any _ _ n c1 P _ hn HW.out hi).mono ?_
      rintro e w1 ⟨r1, rfl, rfl, hr1⟩
      have HR1 := (show Hid (r1 = true ↔ Lj P i) from hr1)
      clear hr1
      cases r1 with
      | false =>
        go_wp2
        go_ret
        exact ⟨_, rfl, rfl, ⟨fun h => (by cases h), fun h => absurd (HR1.out.2 (HNO.out h).2.1) (by simp)⟩⟩
      | true =>
        go_wp2_with fail
        refine (rightJoins_any _ _ n c1 P _ hn HW.out hi).mono ?_
        rintro e w2 ⟨r2, rfl, rfl, hr2⟩
        have HR2 := (show Hid (r2 = true ↔ Rj P n i) from hr2)
        clear hr2
        go_wp2
        go_ret
        exact ⟨_, rfl, rfl, ⟨fun h => .inr ⟨HZ.out, HR1.out.1 (by simp), HR2.out.1 h⟩, fun h => HR2.out.2 (HNO.out h).2.2⟩⟩
    · have q8 : (L i != 8204) = true := by rw [bne_iff_ne]; exact hz
      have HZ : Hid (¬ L i = 8204) := hz
      clear hz
      go_enter Try.func24, Try.ntmps24
      go_wp2
      go_ret
      exact ⟨_, rfl, rfl, ⟨fun h => (by cases h), fun h => absurd (HNO.out h).1 HZ.out⟩⟩

end Go.Proofs.Qxb6602111a
