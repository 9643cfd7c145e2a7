import Derived.Test.Qxb6602111aWd
namespace Go.Proofs.Qxb6602111a
open Go.RowKit
set_option linter.unusedVariables false

/-- The last test of joinerAllowed, as a Bool. -/
def okB (l r : Nat) : Bool := (decide (l = 1) || decide (l = 3)) && (decide (r = 2) || decide (r = 3))
theorem okB_iff (l r : Nat) : okB l r = true ↔ (l = 1 ∨ l = 3) ∧ (r = 2 ∨ r = 3) := by simp [okB]

set_option maxHeartbeats 2000000 in
theorem joiner_rest (w : World) (a0 a1 : Option Addr) (n c0 c1 : Nat) (L : Nat → Int) (P : Nat → Nat) (i : Nat) (hn : n ≤ 65536) (hL : Row .i32 w a0 n L) (hW : Words w a1 n P) (hi : i < n) (h0 : ¬ (0 < i ∧ ccc (P (i - 1)) = 9)) (hz : L i = 8204) :
    Calls Try.prog 33 #[.slice a0 n c0, .slice a1 n c1, .int .i64 i] w (SaysB w (Joins L P n i)) := by
  have HW : Hid (Words w a1 n P) := hW
  obtain ⟨b0, o0, e0, _, hl⟩ := hL i hi
  obtain ⟨b1, o1, e1, _, _⟩ := hW.1 i hi
  clear hW hL
  subst e0 e1
  have HNO : Hid (Joins L P n i → (L i = 8204 ∧ Lj P i ∧ Rj P n i)) := fun h => h.resolve_left h0
  have q8 : (L i != 8204) = false := by simp [hz]
  have HZ : Hid (L i = 8204) := hz
  have HI : Hid (i < n ∧ ¬ (0 < i ∧ ccc (P (i - 1)) = 9)) := ⟨hi, h0⟩
  clear hz h0
  by_cases hi0 : 0 < i
  case pos =>
    obtain ⟨k, hk⟩ : ∃ k, i = k + 1 := ⟨i - 1, by omega⟩
    have hP := HW.out.2 k (by omega)
    obtain ⟨bk, ok, ek, _, hck⟩ := HW.out.1 k (by omega)
    rw [Option.some.injEq, Addr.mk.injEq] at ek
    obtain ⟨rfl, rfl, _⟩ := ek
    have q9 : ((ccc (P k) : Int) == 9) = false := by
      rw [beq_eq_false_iff_ne]
      intro h
      exact HI.out.2 ⟨by omega, by rw [hk, Nat.add_sub_cancel]; omega⟩
    have hki : (i : Int) - 1 = (k : Int) := by omega
    clear hk
    go_enter Try.func33, Try.ntmps33
    go_wp2_with fail
    refine (ccc_any _ _ hP).mono ?_
    rintro e w' ⟨rfl, hw⟩
    have hw2 := hw.symm
    subst hw2
    clear hw
    have HKI : Hid ((i : Int) - 1 = (k : Int)) := hki
    go_wp2
    clear hki q9
    go_loopg [7] i (fun g v wr => ∃ b : Nat, b ≤ i ∧ b = g ∧ v = .int .i64 ((b : Int) - 1) ∧ w = wr ∧ Hid (AllT P b i))
    case atStart => exact ⟨i, Nat.le_refl _, rfl, by first | rfl | rw [HKI.out], rfl, fun k h1 h2 => by omega⟩
    case round =>
      obtain ⟨b, hb, rfl, rfl, rfl, hA⟩ := hrel
      by_cases hb0 : 0 < b
      · obtain ⟨kb, rfl⟩ : ∃ kb, b = kb + 1 := ⟨b - 1, by omega⟩
        have hPb := HW.out.2 kb (by omega)
        obtain ⟨b2, o2, e2, _, h2⟩ := HW.out.1 kb (by omega)
        rw [Option.some.injEq, Addr.mk.injEq] at e2
        obtain ⟨rfl, rfl, _⟩ := e2
        rw [show ((kb + 1 : Nat) : Int) - 1 = (kb : Int) by omega]
        by_cases h4 : jt (P kb) = 4
        · have q4 : ((jn (P kb) : Int) == 256) = true := by have := jn_eq (P kb) 4; rw [h4] at this; simpa using this
          have HN : Hid (AllT P kb i) := fun k h1 h2 => by
            by_cases e : k = kb
            · subst e; exact h4
            · exact hA.out k (by omega) h2
          clear h4
          go_wp2_with (go_at_call 41; refine (jn_to _ _ hPb).mono ?_; rintro e w' ⟨rfl, rfl⟩)
          go_roundg kb
          case measure => omega
          case rel => go_light; exact ⟨kb, by omega, rfl, rfl, rfl, HN⟩
        · have q4 : ((jn (P kb) : Int) == 256) = false := by have := jn_eq (P kb) 4; rw [decide_eq_false h4] at this; simpa using this
          have HS : Hid (jt (P kb) ≠ 4) := h4
          clear h4
          go_wp2_with (go_at_call 41; refine (jn_to _ _ hPb).mono ?_; rintro e w' ⟨rfl, rfl⟩)
          go_loopg [8] (n - (i + 1)) (fun g v wr => ∃ a : Nat, a ≤ n ∧ i < a ∧ n - a = g ∧ v = .int .i64 a ∧ w = wr ∧ Hid (AllT P (i + 1) a))
          case atStart => exact ⟨i + 1, by omega, by omega, rfl, by go_num, rfl, fun k h1 h2 => by omega⟩
          case round =>
            obtain ⟨a, ha, hia, rfl, rfl, rfl, hA2⟩ := hrel
            by_cases han : a < n
            · have hPa := HW.out.2 a (by omega)
              obtain ⟨b3, o3, e3, _, h3⟩ := HW.out.1 a (by omega)
              rw [Option.some.injEq, Addr.mk.injEq] at e3
              obtain ⟨rfl, rfl, _⟩ := e3
              by_cases h4 : jt (P a) = 4
              · have q4a : ((jn (P a) : Int) == 256) = true := by have := jn_eq (P a) 4; rw [h4] at this; simpa using this
                have HN : Hid (AllT P (i + 1) (a + 1)) := fun k h1 h2 => by
                  by_cases e : k = a
                  · subst e; exact h4
                  · exact hA2.out k h1 (by omega)
                clear h4
                go_wp2_with (go_at_call 41; refine (jn_to _ _ hPa).mono ?_; rintro e w' ⟨rfl, rfl⟩)
                go_roundg (n - (a + 1))
                case measure => omega
                case rel => go_light; exact ⟨a + 1, by omega, by omega, rfl, by go_num, rfl, HN⟩
              · have q4a : ((jn (P a) : Int) == 256) = false := by have := jn_eq (P a) 4; rw [decide_eq_false h4] at this; simpa using this
                have HT : Hid (jt (P a) ≠ 4) := h4
                have hne : ((a : Int) == (n : Int)) = false := by rw [beq_eq_false_iff_ne]; omega
                clear h4
                have HF : Hid (Joins L P n i ↔ okB (jt (P kb)) (jt (P a)) = true) := by
                  have hl := left_iff (P := P) (b := kb + 1) (i := i) (by omega) hA.out (.inr (by rw [Nat.add_sub_cancel]; exact HS.out))
                  have hr := right_iff (P := P) (n := n) (a := a) (i := i) (by omega) (by omega) hA2.out (.inr HT.out)
                  rw [Nat.add_sub_cancel] at hl
                  rw [okB_iff]
                  constructor
                  · intro h
                    have h' := HNO.out h
                    exact ⟨(hl.1 h'.2.1).2, (hr.1 h'.2.2).2⟩
                  · intro h
                    exact .inr ⟨HZ.out, hl.2 ⟨by omega, h.1⟩, hr.2 ⟨by omega, h.2⟩⟩
                have hkn : (kb : Int) < (n : Int) := by omega
                have hkn2 : (a : Int) < (n : Int) := by omega
                have q64 : ((jn (P kb) : Int) == 64) = decide (jt (P kb) = 1) := jn_eq (P kb) 1
                have q192 : ((jn (P kb) : Int) == 192) = decide (jt (P kb) = 3) := jn_eq (P kb) 3
                have q128 : ((jn (P a) : Int) == 128) = decide (jt (P a) = 2) := jn_eq (P a) 2
                have q192a : ((jn (P a) : Int) == 192) = decide (jt (P a) = 3) := jn_eq (P a) 3
                obtain ⟨r, hr⟩ : ∃ r, r = okB (jt (P kb)) (jt (P a)) := ⟨_, rfl⟩
                have HR : Hid (r = okB (jt (P kb)) (jt (P a))) := hr
                clear hr
                go_wp2_with (go_at_call 41; refine (jn_to _ _ hPa).mono ?_; rintro e w' ⟨rfl, rfl⟩)
                go_quiet ((first | (go_at_call_of 41 (Value.int IntKind.u32 (P kb : Int)); exact Calls.quiet_of_same (jn_any _ _ hPb)) | (go_at_call_of 41 (Value.int IntKind.u32 (P a : Int)); exact Calls.quiet_of_same (jn_any _ _ hPa))))
                by_cases l1 : jt (P kb) = 1
                all_goals by_cases l3 : jt (P kb) = 3
                all_goals by_cases r2 : jt (P a) = 2
                all_goals by_cases r3 : jt (P a) = 3
                all_goals first | (exfalso; omega) | skip
                all_goals
                  have HV : Hid (okB (jt (P kb)) (jt (P a)) = ((decide (jt (P kb) = 1) || decide (jt (P kb) = 3)) && (decide (jt (P a) = 2) || decide (jt (P a) = 3)))) := rfl
                  simp only [l1, l3, r2, r3, decide_true, decide_false] at q64 q192 q128 q192a
                  have HC : Hid ((decide (jt (P kb) = 1) = true ↔ jt (P kb) = 1) ∧ (decide (jt (P kb) = 3) = true ↔ jt (P kb) = 3) ∧ (decide (jt (P a) = 2) = true ↔ jt (P a) = 2) ∧ (decide (jt (P a) = 3) = true ↔ jt (P a) = 3)) := ⟨decide_eq_true_iff, decide_eq_true_iff, decide_eq_true_iff, decide_eq_true_iff⟩
                  have HL : Hid ((decide (jt (P kb) = 1), decide (jt (P kb) = 3), decide (jt (P a) = 2), decide (jt (P a) = 3)) = (((jn (P kb) : Int) == 64), ((jn (P kb) : Int) == 192), ((jn (P a) : Int) == 128), ((jn (P a) : Int) == 192))) := by
                    show _ = _
                    rw [show ((jn (P kb) : Int) == 64) = decide (jt (P kb) = 1) from jn_eq (P kb) 1, show ((jn (P kb) : Int) == 192) = decide (jt (P kb) = 3) from jn_eq (P kb) 3, show ((jn (P a) : Int) == 128) = decide (jt (P a) = 2) from jn_eq (P a) 2, show ((jn (P a) : Int) == 192) = decide (jt (P a) = 3) from jn_eq (P a) 3]
                  clear l1 l3 r2 r3
                  go_wp2
                  go_ret
                  refine ⟨_, rfl, below_drewN (Below.refl _ _) _, ?_⟩
                  rw [HF.out, HV.out]
                  have hL := HL.out
                  simp only [Prod.mk.injEq] at hL
                  obtain ⟨d1, d2, d3, d4⟩ := hL
                  rw [d1, d2, d3, d4, q64, q192, q128, q192a]
                  simp
            · have e : n = a := by omega
              have heq : ((a : Int) == (n : Int)) = true := by rw [beq_iff_eq]; omega
              go_wp2
              go_ret
              exact ⟨_, rfl, Below.refl _ _, ⟨fun h => (by cases h), fun h => absurd (HNO.out h).2.2 (fun hr => absurd ((right_iff (P := P) (n := n) (a := a) (i := i) (by omega) (by omega) hA2.out (.inl (by omega))).1 hr).1 (by omega))⟩⟩
      · obtain rfl : b = 0 := by omega
        rw [show ((0 : Nat) : Int) - 1 = -1 by omega]
        go_wp2
        go_loopg [8] (n - (i + 1)) (fun g v wr => ∃ a : Nat, a ≤ n ∧ i < a ∧ n - a = g ∧ v = .int .i64 a ∧ w = wr ∧ Hid (AllT P (i + 1) a))
        case atStart => exact ⟨i + 1, by omega, by omega, rfl, by go_num, rfl, fun k h1 h2 => by omega⟩
        case round =>
          obtain ⟨a, ha, hia, rfl, rfl, rfl, hA2⟩ := hrel
          by_cases han : a < n
          · have hPa := HW.out.2 a (by omega)
            obtain ⟨b3, o3, e3, _, h3⟩ := HW.out.1 a (by omega)
            rw [Option.some.injEq, Addr.mk.injEq] at e3
            obtain ⟨rfl, rfl, _⟩ := e3
            by_cases h4 : jt (P a) = 4
            · have q4a : ((jn (P a) : Int) == 256) = true := by have := jn_eq (P a) 4; rw [h4] at this; simpa using this
              have HN : Hid (AllT P (i + 1) (a + 1)) := fun k h1 h2 => by
                by_cases e : k = a
                · subst e; exact h4
                · exact hA2.out k h1 (by omega)
              clear h4
              go_wp2_with (go_at_call 41; refine (jn_to _ _ hPa).mono ?_; rintro e w' ⟨rfl, rfl⟩)
              go_roundg (n - (a + 1))
              case measure => omega
              case rel => go_light; exact ⟨a + 1, by omega, by omega, rfl, by go_num, rfl, HN⟩
            · have q4a : ((jn (P a) : Int) == 256) = false := by have := jn_eq (P a) 4; rw [decide_eq_false h4] at this; simpa using this
              have HT : Hid (jt (P a) ≠ 4) := h4
              have hne : ((a : Int) == (n : Int)) = false := by rw [beq_eq_false_iff_ne]; omega
              clear h4
              go_wp2_with (go_at_call 41; refine (jn_to _ _ hPa).mono ?_; rintro e w' ⟨rfl, rfl⟩)
              go_ret
              exact ⟨_, rfl, Below.refl _ _, ⟨fun h => (by cases h), fun h => absurd (HNO.out h).2.1 (fun hl => absurd ((left_iff (P := P) (b := 0) (i := i) (by omega) hA.out (.inl rfl)).1 hl).1 (by omega))⟩⟩
          · have e : n = a := by omega
            have heq : ((a : Int) == (n : Int)) = true := by rw [beq_iff_eq]; omega
            go_wp2
            go_ret
            exact ⟨_, rfl, Below.refl _ _, ⟨fun h => (by cases h), fun h => absurd (HNO.out h).2.1 (fun hl => absurd ((left_iff (P := P) (b := 0) (i := i) (by omega) hA.out (.inl rfl)).1 hl).1 (by omega))⟩⟩
  case neg =>
    go_enter Try.func33, Try.ntmps33
    go_wp2
    go_loopg [7] i (fun g v wr => ∃ b : Nat, b ≤ i ∧ b = g ∧ v = .int .i64 ((b : Int) - 1) ∧ w = wr ∧ Hid (AllT P b i))
    case atStart => exact ⟨i, Nat.le_refl _, rfl, by first | rfl | rw [HKI.out], rfl, fun k h1 h2 => by omega⟩
    case round =>
      obtain ⟨b, hb, rfl, rfl, rfl, hA⟩ := hrel
      by_cases hb0 : 0 < b
      · omega
      · obtain rfl : b = 0 := by omega
        rw [show ((0 : Nat) : Int) - 1 = -1 by omega]
        go_wp2
        go_loopg [8] (n - (i + 1)) (fun g v wr => ∃ a : Nat, a ≤ n ∧ i < a ∧ n - a = g ∧ v = .int .i64 a ∧ w = wr ∧ Hid (AllT P (i + 1) a))
        case atStart => exact ⟨i + 1, by omega, by omega, rfl, by go_num, rfl, fun k h1 h2 => by omega⟩
        case round =>
          obtain ⟨a, ha, hia, rfl, rfl, rfl, hA2⟩ := hrel
          by_cases han : a < n
          · have hPa := HW.out.2 a (by omega)
            obtain ⟨b3, o3, e3, _, h3⟩ := HW.out.1 a (by omega)
            rw [Option.some.injEq, Addr.mk.injEq] at e3
            obtain ⟨rfl, rfl, _⟩ := e3
            by_cases h4 : jt (P a) = 4
            · have q4a : ((jn (P a) : Int) == 256) = true := by have := jn_eq (P a) 4; rw [h4] at this; simpa using this
              have HN : Hid (AllT P (i + 1) (a + 1)) := fun k h1 h2 => by
                by_cases e : k = a
                · subst e; exact h4
                · exact hA2.out k h1 (by omega)
              clear h4
              go_wp2_with (go_at_call 41; refine (jn_to _ _ hPa).mono ?_; rintro e w' ⟨rfl, rfl⟩)
              go_roundg (n - (a + 1))
              case measure => omega
              case rel => go_light; exact ⟨a + 1, by omega, by omega, rfl, by go_num, rfl, HN⟩
            · have q4a : ((jn (P a) : Int) == 256) = false := by have := jn_eq (P a) 4; rw [decide_eq_false h4] at this; simpa using this
              have HT : Hid (jt (P a) ≠ 4) := h4
              have hne : ((a : Int) == (n : Int)) = false := by rw [beq_eq_false_iff_ne]; omega
              clear h4
              go_wp2_with (go_at_call 41; refine (jn_to _ _ hPa).mono ?_; rintro e w' ⟨rfl, rfl⟩)
              go_ret
              exact ⟨_, rfl, Below.refl _ _, ⟨fun h => (by cases h), fun h => absurd (HNO.out h).2.1 (fun hl => absurd ((left_iff (P := P) (b := 0) (i := i) (by omega) hA.out (.inl rfl)).1 hl).1 (by omega))⟩⟩
          · have e : n = a := by omega
            have heq : ((a : Int) == (n : Int)) = true := by rw [beq_iff_eq]; omega
            go_wp2
            go_ret
            exact ⟨_, rfl, Below.refl _ _, ⟨fun h => (by cases h), fun h => absurd (HNO.out h).2.1 (fun hl => absurd ((left_iff (P := P) (b := 0) (i := i) (by omega) hA.out (.inl rfl)).1 hl).1 (by omega))⟩⟩

end Go.Proofs.Qxb6602111a
