import Derived.Test.Qxb6601860aWc
namespace Go.Proofs.Qxb6601860a
open Go.RowKit
set_option linter.unusedVariables false

def BytesPost (w : World) (n0 n : Nat) (D : Nat → Nat) (e : Ending) (w' : World) : Prop :=
  ∃ r, e = .returned (.bool r) ∧ w = w' ∧ (r = true → n0 ≤ 1048576 ∧ n ≤ 1048576 ∧ ∀ v, v < n → D v ≤ 1048576)

set_option maxHeartbeats 1000000 in
theorem zzBytes24 (w : World) (a0 a : Option Addr) (n0 c0 n c : Nat) (D : Nat → Nat) (F : Nat → Nat → Int) (hL : Lists w a n D F) :
    Calls Try.prog 24 #[.slice a0 n0 c0, .slice a n c] w (BytesPost w n0 n D) := by
  have HL : Hid (Lists w a n D F) := hL
  clear hL
  by_cases h0 : 1048576 < n0
  · go_enter Try.func24, Try.ntmps24
    go_wp2
    go_ret
    exact ⟨_, rfl, rfl, fun h => by cases h⟩
  by_cases h1 : 1048576 < n
  · go_enter Try.func24, Try.ntmps24
    go_wp2
    go_ret
    exact ⟨_, rfl, rfl, fun h => by cases h⟩
  by_cases h1' : 1048576 < n0 + n
  · go_enter Try.func24, Try.ntmps24
    go_wp2
    go_ret
    exact ⟨_, rfl, rfl, fun h => by cases h⟩
  go_enter Try.func24, Try.ntmps24
  go_wp2
  go_loopg [5, 6] n (fun k t i wr => ∃ (j : Nat) (s : Nat), j ≤ n ∧ n - j = k ∧ i = .int .i64 j ∧ t = .int .i64 s ∧ s ≤ 1048576 ∧ w = wr ∧ Hid (∀ v, v < j → D v ≤ 1048576))
  case atStart => exact ⟨0, n0 + n, by omega, by omega, rfl, by go_num, by omega, rfl, fun v hv => by omega⟩
  case round =>
    obtain ⟨j, s, hj, rfl, rfl, rfl, hs, rfl, hN⟩ := hrel
    by_cases hlt : j < n
    · obtain ⟨b, o, x, cx, e, _, hc, _⟩ := HL.out j hlt
      subst e
      by_cases h2 : 1048576 < D j
      · go_wp2
        go_ret
        exact ⟨_, rfl, rfl, fun h => by cases h⟩
      by_cases h3 : 1048576 < s + D j
      · go_wp2
        go_ret
        exact ⟨_, rfl, rfl, fun h => by cases h⟩
      go_wp2
      go_roundg (n - (j + 1))
      case measure => omega
      case rel =>
        go_light
        exact ⟨j + 1, s + D j, by omega, rfl, by go_num, by go_num, by omega, rfl, fun v hv => by
          by_cases e : v = j
          · subst e; omega
          · exact hN.out v (by omega)⟩
    · have e : n = j := by omega
      subst e
      go_wp2
      go_ret
      exact ⟨_, rfl, rfl, fun _ => ⟨by omega, by omega, hN.out⟩⟩

set_option maxHeartbeats 1000000 in
theorem zzBytes17 (w : World) (a0 a : Option Addr) (n0 c0 n c : Nat) (D : Nat → Nat) (F : Nat → Nat → Int) (hL : Lists w a n D F) :
    Calls Try.prog 17 #[.slice a0 n0 c0, .slice a n c] w (BytesPost w n0 n D) := by
  have HL : Hid (Lists w a n D F) := hL
  clear hL
  by_cases h0 : 1048576 < n0
  · go_enter Try.func17, Try.ntmps17
    go_wp2
    go_ret
    exact ⟨_, rfl, rfl, fun h => by cases h⟩
  by_cases h1 : 1048576 < n
  · go_enter Try.func17, Try.ntmps17
    go_wp2
    go_ret
    exact ⟨_, rfl, rfl, fun h => by cases h⟩
  by_cases h1' : 1048576 < n0 + n
  · go_enter Try.func17, Try.ntmps17
    go_wp2
    go_ret
    exact ⟨_, rfl, rfl, fun h => by cases h⟩
  go_enter Try.func17, Try.ntmps17
  go_wp2
  go_loopg [5, 6] n (fun k t i wr => ∃ (j : Nat) (s : Nat), j ≤ n ∧ n - j = k ∧ i = .int .i64 j ∧ t = .int .i64 s ∧ s ≤ 1048576 ∧ w = wr ∧ Hid (∀ v, v < j → D v ≤ 1048576))
  case atStart => exact ⟨0, n0 + n, by omega, by omega, rfl, by go_num, by omega, rfl, fun v hv => by omega⟩
  case round =>
    obtain ⟨j, s, hj, rfl, rfl, rfl, hs, rfl, hN⟩ := hrel
    by_cases hlt : j < n
    · obtain ⟨b, o, x, cx, e, _, hc, _⟩ := HL.out j hlt
      subst e
      by_cases h2 : 1048576 < D j
      · go_wp2
        go_ret
        exact ⟨_, rfl, rfl, fun h => by cases h⟩
      by_cases h3 : 1048576 < s + D j
      · go_wp2
        go_ret
        exact ⟨_, rfl, rfl, fun h => by cases h⟩
      go_wp2
      go_roundg (n - (j + 1))
      case measure => omega
      case rel =>
        go_light
        exact ⟨j + 1, s + D j, by omega, rfl, by go_num, by go_num, by omega, rfl, fun v hv => by
          by_cases e : v = j
          · subst e; omega
          · exact hN.out v (by omega)⟩
    · have e : n = j := by omega
      subst e
      go_wp2
      go_ret
      exact ⟨_, rfl, rfl, fun _ => ⟨by omega, by omega, hN.out⟩⟩

def SomeBool (w : World) (e : Ending) (w' : World) : Prop := ∃ r, e = .returned (.bool r) ∧ w = w'

set_option maxHeartbeats 1000000 in
theorem fits_any (w : World) (base : Int) (a : Option Addr) (n c : Nat) (D : Nat → Nat) (F : Nat → Nat → Int) (hn : n ≤ 65536) (hb0 : 0 ≤ base) (hb1 : base ≤ 1048576) (hD : ∀ v, v < n → D v ≤ 1048576) (hL : Lists w a n D F) :
    Calls Try.prog 18 #[.int .i64 base, .slice a n c] w (SomeBool w) := by
  have HL : Hid (Lists w a n D F ∧ ∀ v, v < n → D v ≤ 1048576) := ⟨hL, hD⟩
  clear hL hD
  obtain ⟨s0, rfl⟩ := Int.eq_ofNat_of_zero_le hb0
  by_cases h0 : 131072 < s0
  · go_enter Try.func18, Try.ntmps18
    go_wp2
    go_ret
    exact ⟨_, rfl, rfl⟩
  go_enter Try.func18, Try.ntmps18
  go_wp2
  go_loopg [5, 6] n (fun k t i wr => ∃ (j : Nat) (s : Nat), j ≤ n ∧ n - j = k ∧ i = .int .i64 j ∧ t = .int .i64 s ∧ s ≤ 131072 ∧ w = wr)
  case atStart => exact ⟨0, s0, by omega, by omega, rfl, rfl, by omega, rfl⟩
  case round =>
    obtain ⟨j, s, hj, rfl, rfl, rfl, hs, rfl⟩ := hrel
    by_cases hlt : j < n
    · obtain ⟨b, o, x, cx, e, _, hc, _⟩ := HL.out.1 j hlt
      have hDj := HL.out.2 j hlt
      subst e
      by_cases h3 : 131072 < s + D j
      · go_wp2
        go_ret
        exact ⟨_, rfl, rfl⟩
      go_wp2
      go_roundg (n - (j + 1))
      case measure => omega
      case rel =>
        go_light
        exact ⟨j + 1, s + D j, by omega, rfl, by go_num, by go_num, by omega, rfl⟩
    · go_wp2
      go_ret
      exact ⟨_, rfl, rfl⟩

/-- What graphInRange says. -/
def InRange (n : Nat) (D : Nat → Nat) (F : Nat → Nat → Int) (asc : Bool) (v j : Nat) : Prop := ∀ k, k < j → 0 ≤ F v k ∧ F v k < n ∧ (asc = true → 0 < k → F v (k - 1) < F v k)
def RangePost (w : World) (n : Nat) (D : Nat → Nat) (F : Nat → Nat → Int) (asc : Bool) (e : Ending) (w' : World) : Prop :=
  ∃ r, e = .returned (.bool r) ∧ Below w.heap.size w w' ∧ (r = true → ∀ v, v < n → InRange n D F asc v (D v))

set_option maxHeartbeats 2000000 in
theorem range_any (w : World) (a : Option Addr) (n c : Nat) (D : Nat → Nat) (F : Nat → Nat → Int) (asc : Bool) (hn : n ≤ 65536) (hD : ∀ v, v < n → D v ≤ 1048576) (hL : Lists w a n D F) :
    Calls Try.prog 19 #[.slice a n c, .bool asc] w (RangePost w n D F asc) := by
  have HL : Hid (Lists w a n D F ∧ ∀ v, v < n → D v ≤ 1048576) := ⟨hL, hD⟩
  clear hL hD
  go_enter Try.func19, Try.ntmps19
  go_wp2
  go_loopg [6] n (fun k i wr => ∃ (j : Nat), j ≤ n ∧ n - j = k ∧ i = .int .i64 j ∧ Below w.heap.size w wr ∧ Hid (∀ v, v < j → InRange n D F asc v (D v)))
  case atStart => exact ⟨0, by omega, by omega, rfl, Below.refl _ _, fun v hv => by omega⟩
  case round =>
    obtain ⟨j, hj, rfl, rfl, hbel, hN⟩ := hrel
    by_cases hlt : j < n
    · obtain ⟨b, o, x, cx, e, _, hc, hr⟩ := HL.out.1.below hbel j hlt
      have hDj := HL.out.2 j hlt
      subst e
      have HR : Hid (Row .i64 wr x (D j) (F j)) := hr
      clear hr
      go_wp2
      go_loopg [8] (D j) (fun k i w2 => ∃ (q : Nat), q ≤ D j ∧ D j - q = k ∧ i = .int .i64 q ∧ Below wr.heap.size wr w2 ∧ Hid (InRange n D F asc j q))
      case atStart => exact ⟨0, by omega, by omega, rfl, Below.refl _ _, fun v hv => by omega⟩
      case round =>
        clear hc
        obtain ⟨q, hq, rfl, rfl, hbel2, hI⟩ := hrel
        have hb3 := hbel
        by_cases hlq : q < D j
        · obtain ⟨b2, o2, ex, _, hq0⟩ := HR.out.below hbel2 q hlq
          subst ex
          have hqI : (q : Int) < ((D j : Nat) : Int) := by omega
          by_cases hneg : F j q < 0
          · go_wp2
            go_ret
            exact ⟨_, rfl, hb3.trans (hbel2.mono hb3.size), fun h => by cases h⟩
          by_cases hge : (n : Int) ≤ F j q
          · go_wp2
            go_ret
            exact ⟨_, rfl, hb3.trans (hbel2.mono hb3.size), fun h => by cases h⟩
          cases asc with
          | false =>
            have HN : Hid (InRange n D F false j (q + 1)) := fun k hk => by
              by_cases e : k = q
              · subst e; exact ⟨by omega, by omega, fun h => by cases h⟩
              · exact hI.out k (by omega)
            go_wp2
            go_quiet (fail)
            go_wp2
            go_roundg (D j - (q + 1))
            case measure => omega
            case rel => go_light; exact ⟨q + 1, by omega, rfl, by go_num, below_drewN hbel2 _, HN⟩
          | true =>
            by_cases hq1 : 0 < q
            · obtain ⟨p, rfl⟩ : ∃ p, q = p + 1 := ⟨q - 1, by omega⟩
              obtain ⟨b3, o3, ex, _, hp0⟩ := HR.out.below hbel2 p (by omega)
              rw [Option.some.injEq, Addr.mk.injEq] at ex
              obtain ⟨rfl, rfl, _⟩ := ex
              have hpI : (p : Int) < ((D j : Nat) : Int) := by omega
              by_cases hlt2 : F j p < F j (p + 1)
              · have HN : Hid (InRange n D F true j (p + 1 + 1)) := fun k hk => by
                  by_cases e : k = p + 1
                  · subst e; exact ⟨by omega, by omega, fun _ _ => by rw [Nat.add_sub_cancel]; exact hlt2⟩
                  · exact hI.out k (by omega)
                have hd : decide (F j (p + 1) ≤ F j p) = false := by simp; omega
                go_wp2
                go_quiet (fail)
                go_wp2
                go_roundg (D j - (p + 1 + 1))
                case measure => omega
                case rel => go_light; exact ⟨p + 1 + 1, by omega, rfl, by go_num, below_drewN hbel2 _, HN⟩
              · go_wp2
                go_quiet (fail)
                go_wp2
                go_ret
                exact ⟨_, rfl, below_drewN (hb3.trans (hbel2.mono hb3.size)) _, fun h => by cases h⟩
            · have HN : Hid (InRange n D F true j (q + 1)) := fun k hk => by
                by_cases e : k = q
                · subst e; exact ⟨by omega, by omega, fun _ h => by omega⟩
                · exact hI.out k (by omega)
              have hd : decide ((0 : Int) < (q : Int)) = false := by simp; omega
              go_wp2
              go_quiet (fail)
              go_wp2
              go_roundg (D j - (q + 1))
              case measure => omega
              case rel => go_light; exact ⟨q + 1, by omega, rfl, by go_num, below_drewN hbel2 _, HN⟩
        · have e : q = D j := by omega
          subst e
          have HN : Hid (∀ v, v < j + 1 → InRange n D F asc v (D v)) := fun v hv => by
            by_cases e : v = j
            · subst e; exact hI.out
            · exact hN.out v (by omega)
          go_wp2
          go_roundg (n - (j + 1))
          case measure => omega
          case rel => go_light; exact ⟨j + 1, by omega, rfl, by go_num, hb3.trans (hbel2.mono hb3.size), HN⟩
    · have e : n = j := by omega
      subst e
      go_wp2
      go_ret
      exact ⟨_, rfl, hbel, fun _ => hN.out⟩

end Go.Proofs.Qxb6601860a
