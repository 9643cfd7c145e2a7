import Derived.Test.Qxb6601806aWa
namespace Go.Proofs.Qxb6601806a
open Go.RowKit

set_option maxHeartbeats 400000 in
theorem zzBytes_any (w : World) (a : Option Addr) (n c : Nat) (V : Nat → Value) (N : Nat → Nat)
    (hV : ∀ i, i < n → ∃ b o x c, a = some ⟨b, o, none⟩ ∧ V i = .slice x (N i) c ∧ w.cell? ⟨b, o + i * 3 + 2, none⟩ = some (V i)) :
    Calls Try.prog 22 #[.slice a n c] w fun e w' => ∃ r, e = .returned (.bool r) ∧ w' = w ∧ (r = true → n ≤ 1048576 ∧ ∀ i, i < n → N i ≤ 1048576) := by
  by_cases hnl : 1048576 < n
  · go_enter Try.func22, Try.ntmps22
    go_wp2
    go_ret
    exact ⟨_, rfl, rfl, fun h => by cases h⟩
  go_enter Try.func22, Try.ntmps22
  go_wp2
  go_loopg [3, 4] n (fun k t i wr => ∃ (j : Nat) (s : Nat), j ≤ n ∧ k = n - j ∧ i = .int .i64 j ∧ t = .int .i64 s ∧ s ≤ 1048576 ∧ wr = w ∧ (∀ i, i < j → N i ≤ 1048576))
  case atStart => exact ⟨0, n, by omega, by omega, rfl, rfl, by omega, rfl, fun i hi => by omega⟩
  case round =>
    obtain ⟨j, s, hj, rfl, rfl, rfl, hs, rfl, hN⟩ := hrel
    have A := (show Aside (∀ i, i < j → N i ≤ 1048576) from hN)
    clear hN
    by_cases hlt : j < n
    · obtain ⟨b, o, x, c', rfl, hv, hcell⟩ := hV j hlt
      rw [hv] at hcell
      clear hV hv
      by_cases h1 : 1048576 < N j
      · go_wp2
        go_ret
        exact ⟨_, rfl, rfl, fun h => by cases h⟩
      by_cases h2 : 1048576 < s + N j
      · go_wp2
        go_ret
        exact ⟨_, rfl, rfl, fun h => by cases h⟩
      go_wp2
      go_roundg (n - (j + 1))
      case measure => omega
      case rel =>
        go_light
        exact ⟨j + 1, s + N j, by omega, rfl, by go_num, by go_num, by omega, rfl, fun i hi => by
          by_cases e : i = j
          · subst e; omega
          · exact A.out i (by omega)⟩
    · have e : j = n := by omega
      subst e
      clear hV
      go_wp2
      go_ret
      exact ⟨_, rfl, rfl, fun _ => ⟨by omega, A.out⟩⟩

set_option maxHeartbeats 400000 in
theorem pvSize_any (w : World) (a : Option Addr) (n c : Nat) (V : Nat → Value) (N : Nat → Nat) (hn : n ≤ 1048576)
    (hV : ∀ i, i < n → ∃ b o x c, a = some ⟨b, o, none⟩ ∧ V i = .slice x (N i) c ∧ w.cell? ⟨b, o + i * 3 + 2, none⟩ = some (V i)) :
    Calls Try.prog 17 #[.slice a n c] w fun e w' => ∃ r, e = .returned (.int .i64 r) ∧ w' = w := by
  go_enter Try.func17, Try.ntmps17
  go_wp2
  go_loopg [3, 4] n (fun k t i wr => ∃ (j : Nat) (s : Nat), j ≤ n ∧ k = n - j ∧ i = .int .i64 j ∧ t = .int .i64 s ∧ s ≤ 1048576 ∧ wr = w)
  case atStart => exact ⟨0, 0, by omega, by omega, rfl, rfl, by omega, rfl⟩
  case round =>
    obtain ⟨j, s, hj, rfl, rfl, rfl, hs, rfl⟩ := hrel
    by_cases hlt : j < n
    · obtain ⟨b, o, x, c', rfl, hv, hcell⟩ := hV j hlt
      rw [hv] at hcell
      clear hV hv
      by_cases h1 : 1048576 < N j
      · go_wp2
        go_ret
        exact ⟨_, rfl, rfl⟩
      by_cases h2 : 1048576 < s + (16 + N j)
      · go_wp2
        go_ret
        exact ⟨_, rfl, rfl⟩
      go_wp2
      go_roundg (n - (j + 1))
      case measure => omega
      case rel =>
        go_light
        exact ⟨j + 1, s + (16 + N j), by omega, rfl, by go_num, by go_num, by omega, rfl⟩
    · have e : j = n := by omega
      subst e
      clear hV
      go_wp2
      go_ret
      exact ⟨_, rfl, rfl⟩

end Go.Proofs.Qxb6601806a
