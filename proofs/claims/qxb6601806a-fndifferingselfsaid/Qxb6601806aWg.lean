import Derived.Test.Qxb6601806aWf
namespace Go.Proofs.Qxb6601806a
open Go.RowKit

/-- What the walk is told of the argument: nil, or n values in memory. -/
def IsArg (w : World) (a : Option Addr) (n c : Nat) (N : Nat → Nat) : Prop :=
  (a = none ∧ n = 0 ∧ c = 0) ∨ ∃ b o sp Bk Pc F, a = some ⟨b, o, sp⟩ ∧ (0 < n → sp = none) ∧ PVs w 0 b o n Bk Pc N F

theorem IsArg.lens {w : World} {a : Option Addr} {n c : Nat} {N : Nat → Nat} (h : IsArg w a n c N) :
    ∃ V : Nat → Value, ∀ i, i < n → ∃ b o x c, a = some ⟨b, o, none⟩ ∧ V i = .slice x (N i) c ∧ w.cell? ⟨b, o + i * 3 + 2, none⟩ = some (V i) := by
  rcases h with ⟨_, rfl, _⟩ | ⟨b, o, sp, Bk, Pc, F, rfl, hsp, hp⟩
  · exact ⟨fun _ => .nilFunc, fun i hi => by omega⟩
  · refine ⟨fun i => (w.cell? ⟨b, o + i * 3 + 2, none⟩).getD .nilFunc, fun i hi => ?_⟩
    obtain ⟨_, _, x, c, h2, _⟩ := hp i hi
    obtain rfl := hsp (by omega)
    exact ⟨b, o, x, c, rfl, by simp [h2], by simp [h2]⟩

theorem bthen {a b c : World} (h : Below a.heap.size a b) (k : Below b.heap.size b c) : Below a.heap.size a c := h.trans (k.mono h.size)

set_option maxHeartbeats 1000000 in
theorem law_walk (w : World) (a : Option Addr) (n c : Nat) (N : Nat → Nat) (h : IsArg w a n c N) :
    Calls Try.prog 6 #[.slice a n c] w fun e w' => e = .returned (.bool true) ∧ Below w.heap.size w w' := by
  have hq := fun (w : World) (a : Option Addr) (n c n' c' : Nat) => run_neq_slice_nil_any (P := Try.prog) w 45 30 a n c n' c' Try.underlying45
  obtain ⟨V, hV⟩ := h.lens
  have HV : Hid (∀ i, i < n → ∃ b o x c, a = some ⟨b, o, none⟩ ∧ V i = .slice x (N i) c ∧ w.cell? ⟨b, o + i * 3 + 2, none⟩ = some (V i)) := hV
  have HA : Hid (IsArg w a n c N) := h
  clear hV h
  go_enter Try.func6, Try.ntmps6
  go_wp2_with fail
  refine (zzBytes_any w a n c V N HV.out).mono ?_
  rintro e w' ⟨r, rfl, rfl, hr⟩
  cases r with
  | false =>
    clear hr
    go_wp2
    go_ret
    exact ⟨rfl, Below.refl _ _⟩
  | true =>
    obtain ⟨hn, hN⟩ := hr rfl
    clear hr
    have HN : Hid (∀ i, i < n → N i ≤ 1048576) := hN
    clear hN
    go_wp2_with fail
    refine (pvSize_any w' a n c V N hn HV.out).mono ?_
    rintro e w1 ⟨r, rfl, rfl⟩
    by_cases hr : 1048576 < r
    · go_wp2
      go_ret
      exact ⟨rfl, Below.refl _ _⟩
    go_wp2_with fail
    rcases HA.out with ⟨rfl, rfl, rfl⟩ | ⟨b, o, sp, Bk, Pc, F, rfl, hsp, hp⟩
    · clear HA HV
      refine (clonePVs_nil w1).mono ?_
      rintro e w2 ⟨rfl, rfl⟩
      go_wp2_with fail
      refine (toValues_nil w2).mono ?_
      rintro e w3 ⟨rfl, rfl⟩
      go_wp2_with fail
      refine (toValues_nil w3).mono ?_
      rintro e w4 ⟨rfl, rfl⟩
      go_wp2_with fail
      refine (differing_nil w4).mono ?_
      rintro e w5 ⟨rfl, hb5⟩
      go_wp2_with fail
      refine (differing_nil w5).mono ?_
      rintro e w6 ⟨rfl, hb6⟩
      go_wp2
      go_ret
      exact ⟨rfl, bthen hb5 hb6⟩
    · have HP : Hid (PVs w1 0 b o n Bk Pc N F ∧ (0 < n → sp = none)) := ⟨hp, hsp⟩
      clear hp hsp HA HV
      refine (clonePVs_some w1 0 b o n c sp Bk Pc N F HP.out.2 hn HN.out HP.out.1).mono ?_
      rintro e w2 ⟨rfl, hp2, hb2⟩
      have HP2 : Hid (PVs w2 (w1.heap.size + 1) w1.heap.size 0 n Bk Pc N F) := hp2
      clear hp2
      go_wp2_with fail
      refine (toValues_some w2 _ _ 0 n n none Bk Pc N F (fun _ => rfl) hn HN.out HP2.out).mono ?_
      rintro e w3 ⟨rfl, hp3, hb3⟩
      have HP3 : Hid (PVs w3 (w2.heap.size + 1) w2.heap.size 0 n Bk Pc N F) := hp3
      clear hp3
      go_wp2_with fail
      refine (toValues_some w3 _ _ 0 n n none Bk Pc N F (fun _ => rfl) hn HN.out (HP2.out.below hb3)).mono ?_
      rintro e w4 ⟨rfl, hp4, hb4⟩
      have HP4 : Hid (PVs w4 (w3.heap.size + 1) w3.heap.size 0 n Bk Pc N F) := hp4
      clear hp4
      go_wp2_with fail
      refine (zzdiffering_some w4 _ _ _ 0 _ 0 n n n none none Bk Pc Bk Pc N F (fun _ => ⟨rfl, rfl⟩) hn (HP3.out.below hb4) HP4.out).mono ?_
      rintro e w5 ⟨rfl, hb5⟩
      go_wp2_with fail
      refine (zzdiffering_some w5 _ _ _ 0 _ 0 n n n none none Bk Pc Bk Pc N F (fun _ => ⟨rfl, rfl⟩) hn ((HP3.out.below hb4).below hb5) ((HP3.out.below hb4).below hb5)).mono ?_
      rintro e w6 ⟨rfl, hb6⟩
      go_wp2
      go_ret
      exact ⟨rfl, bthen (bthen (bthen (bthen hb2 hb3) hb4) hb5) hb6⟩

end Go.Proofs.Qxb6601806a
