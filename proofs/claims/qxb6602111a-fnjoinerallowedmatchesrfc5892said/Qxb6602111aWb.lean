import Derived.Test.Qxb6602111aWa
namespace Go.Proofs.Qxb6602111a
open Go.RowKit
set_option linter.unusedVariables false

/-- The property words, as naturals. -/
def Words (w : World) (a : Option Addr) (n : Nat) (P : Nat → Nat) : Prop := Row .u32 w a n (fun i => (P i : Int)) ∧ ∀ i, i < n → P i < 4294967296

def AllT (P : Nat → Nat) (f t : Nat) : Prop := ∀ k, f ≤ k → k < t → jt (P k) = 4
def Lj (P : Nat → Nat) (i : Nat) : Prop := ∃ b, b < i ∧ (jt (P b) = 1 ∨ jt (P b) = 3) ∧ AllT P (b + 1) i
def Rj (P : Nat → Nat) (n i : Nat) : Prop := ∃ a, i < a ∧ a < n ∧ (jt (P a) = 2 ∨ jt (P a) = 3) ∧ AllT P (i + 1) a

/-- It returns a bool that says p, and the world is as it was. -/
def Says (w : World) (p : Prop) (e : Ending) (w' : World) : Prop := ∃ r, e = .returned (.bool r) ∧ w' = w ∧ (r = true ↔ p)

theorem bneq (a b : Nat) : (((a : Int) != (b : Int)) = true ↔ a ≠ b) := by rw [bne_iff_ne]; omega

set_option maxHeartbeats 400000 in
theorem allT_any (w : World) (a : Option Addr) (n c : Nat) (P : Nat → Nat) (f t : Int) (hn : n ≤ 65536) (hW : Words w a n P) (hf : 0 ≤ f) (hfn : f ≤ 65537) (ht : 0 ≤ t) (htn : t ≤ n) :
    Calls Try.prog 42 #[.slice a n c, .int .i64 f, .int .i64 t] w (Says w (AllT P f.toNat t.toNat)) := by
  obtain ⟨f, rfl⟩ := Int.eq_ofNat_of_zero_le hf
  obtain ⟨t, rfl⟩ := Int.eq_ofNat_of_zero_le ht
  rw [Int.toNat_natCast, Int.toNat_natCast]
  have HW : Hid (Words w a n P) := hW
  clear hW hf ht
  go_enter Try.func42, Try.ntmps42
  go_wp2
  go_loopg [7] (t - f) (fun k i wr => ∃ j : Nat, f ≤ j ∧ j ≤ 65537 ∧ k = t - j ∧ i = .int .i64 j ∧ wr = w ∧ Hid (AllT P f j))
  case atStart => exact ⟨f, Nat.le_refl _, by omega, rfl, rfl, rfl, fun k h1 h2 => by omega⟩
  case round =>
    obtain ⟨j, hj, hj2, rfl, rfl, rfl, hA⟩ := hrel
    by_cases hlt : j < t
    · obtain ⟨b, o, e, _, h1⟩ := HW.out.1 j (by omega)
      subst e
      have hP := HW.out.2 j (by omega)
      by_cases h4 : jt (P j) = 4
      · have hne : ((jt (P j) : Int) != 4) = false := by simp [h4]
        have HN : Hid (AllT P f (j + 1)) := fun k h1 h2 => by
          by_cases e : k = j
          · subst e; exact h4
          · exact hA.out k h1 (by omega)
        clear h4
        go_wp2_with (go_at_call 36; refine (jt_any _ _ hP).mono ?_; rintro e w' ⟨rfl, rfl⟩)
        go_roundg (t - (j + 1))
        case measure => omega
        case rel => go_light; exact ⟨j + 1, by omega, by omega, rfl, by go_num, rfl, HN⟩
      · have hne : ((jt (P j) : Int) != 4) = true := by rw [bne_iff_ne]; omega
        have H4 : Hid (jt (P j) ≠ 4) := h4
        clear h4
        go_wp2_with (go_at_call 36; refine (jt_any _ _ hP).mono ?_; rintro e w' ⟨rfl, rfl⟩)
        go_ret
        exact ⟨_, rfl, rfl, ⟨fun h => (by cases h), fun h => absurd (h j hj hlt) H4.out⟩⟩
    · go_wp2
      go_ret
      exact ⟨_, rfl, rfl, ⟨fun _ k h1 h2 => hA.out k h1 (by omega), fun _ => rfl⟩⟩

set_option maxHeartbeats 1000000 in
theorem leftJoins_any (w : World) (a : Option Addr) (n c : Nat) (P : Nat → Nat) (i : Nat) (hn : n ≤ 65536) (hW : Words w a n P) (hi : i < n) :
    Calls Try.prog 34 #[.slice a n c, .int .i64 i] w (Says w (Lj P i)) := by
  have HW : Hid (Words w a n P) := hW
  clear hW
  go_enter Try.func34, Try.ntmps34
  go_wp2
  go_loopg [5] i (fun k v wr => ∃ j : Nat, j ≤ i ∧ k = i - j ∧ v = .int .i64 j ∧ wr = w ∧ Hid (∀ b, b < j → ¬ ((jt (P b) = 1 ∨ jt (P b) = 3) ∧ AllT P (b + 1) i)))
  case atStart => exact ⟨0, Nat.zero_le _, rfl, rfl, rfl, fun b hb => by omega⟩
  case round =>
    obtain ⟨j, hj, rfl, rfl, rfl, hA⟩ := hrel
    by_cases hlt : j < i
    · obtain ⟨b, o, e, _, h1⟩ := HW.out.1 j (by omega)
      have hP := HW.out.2 j (by omega)
      by_cases hc : jt (P j) = 1 ∨ jt (P j) = 3
      · have HC : Hid (jt (P j) = 1 ∨ jt (P j) = 3) := hc
        rcases hc with hc | hc
        · have q1 : ((jt (P j) : Int) != 1) = false := by rw [hc]; rfl
          clear hc
          subst e
          go_wp2_with fail
          refine (jt_any _ _ hP).mono ?_
          rintro e w' ⟨rfl, rfl⟩
          go_wp2_with fail
          refine (allT_any _ _ n c P _ _ hn HW.out (by omega) (by omega) (by omega) (by omega)).mono ?_
          rintro e w1 ⟨r, rfl, rfl, hr⟩
          rw [show ((j : Int) + 1).toNat = j + 1 by omega, Int.toNat_natCast] at hr
          have HRr : Hid (r = true ↔ AllT P (j + 1) i) := hr
          clear hr
          cases r with
          | true =>
            go_wp2
            go_ret
            exact ⟨_, rfl, rfl, ⟨fun _ => ⟨j, hlt, HC.out, HRr.out.1 (by simp)⟩, fun _ => rfl⟩⟩
          | false =>
            have HN : Hid (∀ b, b < j + 1 → ¬ ((jt (P b) = 1 ∨ jt (P b) = 3) ∧ AllT P (b + 1) i)) := fun b hb => by
              by_cases e : b = j
              · subst e; exact fun h => absurd (HRr.out.2 h.2) (by simp)
              · exact hA.out b (by omega)
            go_wp2
            go_roundg (i - (j + 1))
            case measure => omega
            case rel => go_light; exact ⟨j + 1, by omega, rfl, by go_num, rfl, HN⟩
        · have q1 : ((jt (P j) : Int) != 1) = true := by rw [hc]; rfl
          have q3 : ((jt (P j) : Int) != 3) = false := by rw [hc]; rfl
          clear hc
          subst e
          go_wp2_with fail
          refine (jt_any _ _ hP).mono ?_
          rintro e w' ⟨rfl, rfl⟩
          go_wp2_with fail
          refine (allT_any _ _ n c P _ _ hn HW.out (by omega) (by omega) (by omega) (by omega)).mono ?_
          rintro e w1 ⟨r, rfl, rfl, hr⟩
          rw [show ((j : Int) + 1).toNat = j + 1 by omega, Int.toNat_natCast] at hr
          have HRr : Hid (r = true ↔ AllT P (j + 1) i) := hr
          clear hr
          cases r with
          | true =>
            go_wp2
            go_ret
            exact ⟨_, rfl, rfl, ⟨fun _ => ⟨j, hlt, HC.out, HRr.out.1 (by simp)⟩, fun _ => rfl⟩⟩
          | false =>
            have HN : Hid (∀ b, b < j + 1 → ¬ ((jt (P b) = 1 ∨ jt (P b) = 3) ∧ AllT P (b + 1) i)) := fun b hb => by
              by_cases e : b = j
              · subst e; exact fun h => absurd (HRr.out.2 h.2) (by simp)
              · exact hA.out b (by omega)
            go_wp2
            go_roundg (i - (j + 1))
            case measure => omega
            case rel => go_light; exact ⟨j + 1, by omega, rfl, by go_num, rfl, HN⟩
      · have q1 : ((jt (P j) : Int) != 1) = true := by rw [bne_iff_ne]; omega
        have q3 : ((jt (P j) : Int) != 3) = true := by rw [bne_iff_ne]; omega
        have HN : Hid (∀ b, b < j + 1 → ¬ ((jt (P b) = 1 ∨ jt (P b) = 3) ∧ AllT P (b + 1) i)) := fun b hb => by
          by_cases e : b = j
          · subst e; exact fun h => hc h.1
          · exact hA.out b (by omega)
        clear hc
        subst e
        go_wp2_with fail
        refine (jt_any _ _ hP).mono ?_
        rintro e w' ⟨rfl, rfl⟩
        go_wp2
        go_roundg (i - (j + 1))
        case measure => omega
        case rel => go_light; exact ⟨j + 1, by omega, rfl, by go_num, rfl, HN⟩
    · go_wp2
      go_ret
      exact ⟨_, rfl, rfl, ⟨fun h => (by cases h), fun ⟨b, hb, h⟩ => absurd h (hA.out b (by omega))⟩⟩

set_option maxHeartbeats 1000000 in
theorem rightJoins_any (w : World) (a : Option Addr) (n c : Nat) (P : Nat → Nat) (i : Nat) (hn : n ≤ 65536) (hW : Words w a n P) (hi : i < n) :
    Calls Try.prog 35 #[.slice a n c, .int .i64 i] w (Says w (Rj P n i)) := by
  have HW : Hid (Words w a n P) := hW
  clear hW
  go_enter Try.func35, Try.ntmps35
  go_wp2
  go_loopg [5] (n - (i + 1)) (fun k v wr => ∃ j : Nat, j ≤ n ∧ i < j ∧ k = n - j ∧ v = .int .i64 j ∧ wr = w ∧ Hid (∀ b, b < j → ¬ (i < b ∧ (jt (P b) = 2 ∨ jt (P b) = 3) ∧ AllT P (i + 1) b)))
  case atStart => exact ⟨i + 1, by omega, by omega, rfl, by go_num, rfl, fun b hb => by omega⟩
  case round =>
    obtain ⟨j, hj, hij, rfl, rfl, rfl, hA⟩ := hrel
    by_cases hlt : j < n
    · obtain ⟨b, o, e, _, h1⟩ := HW.out.1 j (by omega)
      have hP := HW.out.2 j (by omega)
      by_cases hc : jt (P j) = 2 ∨ jt (P j) = 3
      · have HC : Hid (jt (P j) = 2 ∨ jt (P j) = 3) := hc
        rcases hc with hc | hc
        · have q1 : ((jt (P j) : Int) != 2) = false := by rw [hc]; rfl
          clear hc
          subst e
          go_wp2_with fail
          refine (jt_any _ _ hP).mono ?_
          rintro e w' ⟨rfl, rfl⟩
          go_wp2_with fail
          refine (allT_any _ _ n c P _ _ hn HW.out (by omega) (by omega) (by omega) (by omega)).mono ?_
          rintro e w1 ⟨r, rfl, rfl, hr⟩
          rw [show ((i : Int) + 1).toNat = i + 1 by omega, Int.toNat_natCast] at hr
          have HRr : Hid (r = true ↔ AllT P (i + 1) j) := hr
          clear hr
          cases r with
          | true =>
            go_wp2
            go_ret
            exact ⟨_, rfl, rfl, ⟨fun _ => ⟨j, hij, hlt, HC.out, HRr.out.1 (by simp)⟩, fun _ => rfl⟩⟩
          | false =>
            have HN : Hid (∀ b, b < j + 1 → ¬ (i < b ∧ (jt (P b) = 2 ∨ jt (P b) = 3) ∧ AllT P (i + 1) b)) := fun b hb => by
              by_cases e : b = j
              · subst e; exact fun h => absurd (HRr.out.2 h.2.2) (by simp)
              · exact hA.out b (by omega)
            go_wp2
            go_roundg (n - (j + 1))
            case measure => omega
            case rel => go_light; exact ⟨j + 1, by omega, by omega, rfl, by go_num, rfl, HN⟩
        · have q1 : ((jt (P j) : Int) != 2) = true := by rw [hc]; rfl
          have q3 : ((jt (P j) : Int) != 3) = false := by rw [hc]; rfl
          clear hc
          subst e
          go_wp2_with fail
          refine (jt_any _ _ hP).mono ?_
          rintro e w' ⟨rfl, rfl⟩
          go_wp2_with fail
          refine (allT_any _ _ n c P _ _ hn HW.out (by omega) (by omega) (by omega) (by omega)).mono ?_
          rintro e w1 ⟨r, rfl, rfl, hr⟩
          rw [show ((i : Int) + 1).toNat = i + 1 by omega, Int.toNat_natCast] at hr
          have HRr : Hid (r = true ↔ AllT P (i + 1) j) := hr
          clear hr
          cases r with
          | true =>
            go_wp2
            go_ret
            exact ⟨_, rfl, rfl, ⟨fun _ => ⟨j, hij, hlt, HC.out, HRr.out.1 (by simp)⟩, fun _ => rfl⟩⟩
          | false =>
            have HN : Hid (∀ b, b < j + 1 → ¬ (i < b ∧ (jt (P b) = 2 ∨ jt (P b) = 3) ∧ AllT P (i + 1) b)) := fun b hb => by
              by_cases e : b = j
              · subst e; exact fun h => absurd (HRr.out.2 h.2.2) (by simp)
              · exact hA.out b (by omega)
            go_wp2
            go_roundg (n - (j + 1))
            case measure => omega
            case rel => go_light; exact ⟨j + 1, by omega, by omega, rfl, by go_num, rfl, HN⟩
      · have q1 : ((jt (P j) : Int) != 2) = true := by rw [bne_iff_ne]; omega
        have q3 : ((jt (P j) : Int) != 3) = true := by rw [bne_iff_ne]; omega
        have HN : Hid (∀ b, b < j + 1 → ¬ (i < b ∧ (jt (P b) = 2 ∨ jt (P b) = 3) ∧ AllT P (i + 1) b)) := fun b hb => by
          by_cases e : b = j
          · subst e; exact fun h => hc h.2.1
          · exact hA.out b (by omega)
        clear hc
        subst e
        go_wp2_with fail
        refine (jt_any _ _ hP).mono ?_
        rintro e w' ⟨rfl, rfl⟩
        go_wp2
        go_roundg (n - (j + 1))
        case measure => omega
        case rel => go_light; exact ⟨j + 1, by omega, by omega, rfl, by go_num, rfl, HN⟩
    · go_wp2
      go_ret
      exact ⟨_, rfl, rfl, ⟨fun h => (by cases h), fun ⟨b, hb, hbn, h⟩ => absurd ⟨hb, h⟩ (hA.out b (by omega))⟩⟩

end Go.Proofs.Qxb6602111a
