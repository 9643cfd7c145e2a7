import Derived.Test.Qxb6602111aWe
namespace Go.Proofs.Qxb6602111a
open Go.RowKit
set_option linter.unusedVariables false

set_option maxHeartbeats 1000000 in
theorem joiner_other (w : World) (a0 a1 : Option Addr) (n c0 c1 : Nat) (L : Nat → Int) (P : Nat → Nat) (i : Nat) (hn : n ≤ 65536) (hL : Row .i32 w a0 n L) (hW : Words w a1 n P) (hi : i < n) (h0 : ¬ (0 < i ∧ ccc (P (i - 1)) = 9)) (hz : L i ≠ 8204) :
    Calls Try.prog 33 #[.slice a0 n c0, .slice a1 n c1, .int .i64 i] w (SaysB w (Joins L P n i)) := by
  have HW : Hid (Words w a1 n P) := hW
  obtain ⟨b0, o0, e0, _, hl⟩ := hL i hi
  obtain ⟨b1, o1, e1, _, _⟩ := hW.1 i hi
  clear hW hL
  subst e0 e1
  have HNO : Hid (¬ Joins L P n i) := fun h => hz (h.resolve_left h0).1
  have q8 : (L i != 8204) = true := by rw [bne_iff_ne]; exact hz
  have HI : Hid (i < n ∧ ¬ (0 < i ∧ ccc (P (i - 1)) = 9)) := ⟨hi, h0⟩
  clear hz h0
  by_cases hi0 : 0 < i
  · obtain ⟨k, hk⟩ : ∃ k, i = k + 1 := ⟨i - 1, by omega⟩
    have hP := HW.out.2 k (by omega)
    obtain ⟨bk, ok, ek, _, hck⟩ := HW.out.1 k (by omega)
    rw [Option.some.injEq, Addr.mk.injEq] at ek
    obtain ⟨rfl, rfl, _⟩ := ek
    have q9 : ((ccc (P k) : Int) == 9) = false := by
      rw [beq_eq_false_iff_ne]
      intro h
      exact HI.out.2 ⟨by omega, by rw [hk, Nat.add_sub_cancel]; omega⟩
    have hki : (i : Int) - 1 = (k : Int) := by omega
    clear hk
    go_enter Try.func33, Try.ntmps33
    go_wp2_with fail
    refine (ccc_any _ _ hP).mono ?_
    rintro e w' ⟨rfl, hw⟩
    have hw2 := hw.symm
    subst hw2
    clear hw
    go_wp2
    go_ret
    exact ⟨_, rfl, Below.refl _ _, ⟨fun h => (by cases h), fun h => absurd h HNO.out⟩⟩
  · go_enter Try.func33, Try.ntmps33
    go_wp2
    go_ret
    exact ⟨_, rfl, Below.refl _ _, ⟨fun h => (by cases h), fun h => absurd h HNO.out⟩⟩

theorem joiner_any (w : World) (a0 a1 : Option Addr) (n c0 c1 : Nat) (L : Nat → Int) (P : Nat → Nat) (i : Nat) (hn : n ≤ 65536) (hL : Row .i32 w a0 n L) (hW : Words w a1 n P) (hi : i < n) :
    Calls Try.prog 33 #[.slice a0 n c0, .slice a1 n c1, .int .i64 i] w (SaysB w (Joins L P n i)) := by
  by_cases h0 : 0 < i ∧ ccc (P (i - 1)) = 9
  · obtain ⟨k, rfl⟩ : ∃ k, i = k + 1 := ⟨i - 1, by omega⟩
    exact joiner_virama w a0 a1 n c0 c1 L P k hn hW hi (by rw [Nat.add_sub_cancel] at h0; exact h0.2)
  · by_cases hz : L i = 8204
    · exact joiner_rest w a0 a1 n c0 c1 L P i hn hL hW hi h0 hz
    · exact joiner_other w a0 a1 n c0 c1 L P i hn hL hW hi h0 hz

set_option maxHeartbeats 1000000 in
theorem zz_any (w : World) (a0 a1 : Option Addr) (n c0 c1 : Nat) (L : Nat → Int) (P : Nat → Nat) (i : Nat) (hn : n ≤ 65536) (hL : Row .i32 w a0 n L) (hW : Words w a1 n P) (hi : i < n) :
    Calls Try.prog 23 #[.slice a0 n c0, .slice a1 n c1, .int .i64 i] w (SaysB w (Joins L P n i)) := by
  have H : Hid (Calls Try.prog 33 #[.slice a0 n c0, .slice a1 n c1, .int .i64 i] w (SaysB w (Joins L P n i))) := joiner_any w a0 a1 n c0 c1 L P i hn hL hW hi
  clear hL hW
  go_enter Try.func23, Try.ntmps23
  go_wp2_with fail
  refine H.out.mono ?_
  rintro e w' ⟨r, rfl, hb, hr⟩
  have HR : Hid (Below w.heap.size w w' ∧ (r = true ↔ Joins L P n i)) := ⟨hb, hr⟩
  clear hb hr
  go_wp2
  go_ret
  exact ⟨_, rfl, HR.out⟩

def LawPost (w : World) (e : Ending) (w' : World) : Prop := e = .returned (.bool true) ∧ Below w.heap.size w w'

theorem Words.below {w w' : World} {a : Option Addr} {n : Nat} {P : Nat → Nat} (h : Words w a n P) (hb : Below w.heap.size w w') : Words w' a n P := ⟨h.1.below hb, h.2⟩

set_option maxHeartbeats 1000000 in
theorem law_walk (w : World) (a0 a1 : Option Addr) (n0 n1 c0 c1 : Nat) (L : Nat → Int) (P : Nat → Nat) (i : Int) (m0 : n0 ≤ maxLen) (m1 : n1 ≤ maxLen) (z0 : a0.isNone = true → n0 = 0) (z1 : a1.isNone = true → n1 = 0)
    (i1 : -9223372036854775808 ≤ i) (i2 : i ≤ 9223372036854775807) (hL : Row .i32 w a0 n0 L) (hW : Words w a1 n1 P) :
    Calls Try.prog 7 #[.slice a0 n0 c0, .slice a1 n1 c1, .int .i64 i] w (LawPost w) := by
  have hzz := zzBytes_any w a0 a1 n0 n1 c0 c1 i m0 m1
  have HZ : Hid (Calls Try.prog 20 #[.slice a0 n0 c0, .slice a1 n1 c1, .int .i64 i] w fun e w' => ∃ r, e = .returned (.bool r) ∧ w' = w) := hzz
  clear hzz
  unfold maxLen at m0 m1
  have HG : Hid (Row .i32 w a0 n0 L ∧ Words w a1 n1 P ∧ (a0.isNone = true → n0 = 0) ∧ (a1.isNone = true → n1 = 0)) := ⟨hL, hW, z0, z1⟩
  clear hL hW z0 z1
  by_cases l0 : 65536 < n0
  · go_enter Try.func7, Try.ntmps7
    go_wp2_with fail
    refine HZ.out.mono ?_
    rintro e w' ⟨r, rfl, rfl⟩
    cases r <;> go_wp2 <;> (go_ret; exact ⟨rfl, Below.refl _ _⟩)
  by_cases l1 : 65536 < n1
  · go_enter Try.func7, Try.ntmps7
    go_wp2_with fail
    refine HZ.out.mono ?_
    rintro e w' ⟨r, rfl, rfl⟩
    cases r <;> go_wp2 <;> (go_ret; exact ⟨rfl, Below.refl _ _⟩)
  by_cases hne : n1 = n0
  case neg =>
    have q : ((n1 : Int) != (n0 : Int)) = true := by rw [bne_iff_ne]; omega
    clear hne
    go_enter Try.func7, Try.ntmps7
    go_wp2_with fail
    refine HZ.out.mono ?_
    rintro e w' ⟨r, rfl, rfl⟩
    cases r <;> go_wp2 <;> (go_ret; exact ⟨rfl, Below.refl _ _⟩)
  case pos =>
    subst hne
    have q : ((n1 : Int) != (n1 : Int)) = false := by simp
    by_cases hi0 : i < 0
    · go_enter Try.func7, Try.ntmps7
      go_wp2_with fail
      refine HZ.out.mono ?_
      rintro e w' ⟨r, rfl, rfl⟩
      cases r <;> go_wp2 <;> (go_ret; exact ⟨rfl, Below.refl _ _⟩)
    by_cases hin : (n1 : Int) ≤ i
    · go_enter Try.func7, Try.ntmps7
      go_wp2_with fail
      refine HZ.out.mono ?_
      rintro e w' ⟨r, rfl, rfl⟩
      cases r <;> go_wp2 <;> (go_ret; exact ⟨rfl, Below.refl _ _⟩)
    obtain ⟨k, rfl⟩ := Int.eq_ofNat_of_zero_le (show 0 ≤ i by omega)
    have hk : k < n1 := by omega
    have s0 : a0.isNone = false := Bool.eq_false_iff.2 fun h => by have := HG.out.2.2.1 h; omega
    have s1 : a1.isNone = false := Bool.eq_false_iff.2 fun h => by have := HG.out.2.2.2 h; omega
    go_enter Try.func7, Try.ntmps7
    go_wp2_with fail
    refine HZ.out.mono ?_
    rintro e w' ⟨r, rfl, rfl⟩
    cases r with
    | false =>
      go_wp2
      go_ret
      exact ⟨rfl, Below.refl _ _⟩
    | true =>
      go_wp2_with fail
      refine (cloneRunes_any _ a0 n1 c0 L (by omega) s0 HG.out.1).mono ?_
      rintro e w1 ⟨g1, rfl, r1, hb1⟩
      have H1 : Hid (Row .i32 w1 (some ⟨g1, 0, none⟩) n1 L) := r1
      clear r1
      go_wp2_with fail
      refine (cloneWords_any w1 a1 n1 c1 _ (by omega) s1 (HG.out.2.1.below hb1).1).mono ?_
      rintro e w2 ⟨g2, rfl, r2, hb2⟩
      have H2 : Hid (Words w2 (some ⟨g2, 0, none⟩) n1 P) := ⟨r2, HG.out.2.1.2⟩
      clear r2
      go_wp2_with fail
      refine (props_any w2 _ n1 n1 _ (by omega) H2.out.1).mono ?_
      rintro e w3 ⟨g3, rfl, r3, hb3⟩
      have H3 : Hid (Words w3 (some ⟨g3, 0, none⟩) n1 P) := ⟨r3, HG.out.2.1.2⟩
      clear r3
      go_wp2_with fail
      refine (zz_any w3 _ _ n1 n1 n1 L P k (by omega) ((H1.out.below hb2).below hb3) H3.out hk).mono ?_
      rintro e w4 ⟨r4, rfl, hb4, hr4⟩
      have H4 : Hid (r4 = true ↔ Joins L P n1 k) := hr4
      clear hr4
      go_wp2_with fail
      refine (model_any w4 _ _ n1 n1 n1 L P k (by omega) (((H1.out.below hb2).below hb3).below hb4) ((H2.out.below hb3).below hb4) hk).mono ?_
      rintro e w5 ⟨r5, rfl, hw5, hr5⟩
      subst hw5
      have e45 : r4 = r5 := by
        have h4 := H4.out
        cases r4 <;> cases r5 <;> simp_all
      subst e45
      clear hr5
      have qq : (r4 == r4) = true := by simp
      go_wp2
      go_ret
      exact ⟨rfl, bthen (bthen (bthen hb1 hb2) hb3) hb4⟩

end Go.Proofs.Qxb6602111a
