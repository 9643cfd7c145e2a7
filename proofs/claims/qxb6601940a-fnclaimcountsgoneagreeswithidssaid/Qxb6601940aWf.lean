import Derived.Test.Qxb6601940aWe
namespace Go.Proofs.Qxb6601940a
open Go.RowKit
set_option linter.unusedVariables false

theorem counts_agree {a0 a2 a3 : Option Addr} {n0 n1 n2 n3 : Nat} {g S p q : Nat → Int} (h : PartFacts a0 a2 a3 n0 n1 n2 n3 g S p q) (c : Nat) (hc : c < n1) :
    S c + (-1) * (cnt (qcl g q c) n3 : Nat) = 0 + 1 * (cnt (qcl g p c) n2 : Nat) := by
  have h1 := h.size c hc
  have h2 := h.sum c
  have e1 : cnt (qcl g q c) n3 = cnt (fun i => cls g c (q i).toNat) n3 := rfl
  have e2 : cnt (qcl g p c) n2 = cnt (fun i => cls g c (p i).toNat) n2 := rfl
  omega

theorem Row.congr {k : IntKind} {w : World} {a : Option Addr} {n : Nat} {f f' : Nat → Int} (h : Row k w a n f) (e : ∀ i, i < n → f i = f' i) : Row k w a n f' := by
  intro i hi
  obtain ⟨b, o, ha, hlt, hc⟩ := h i hi
  exact ⟨b, o, ha, hlt, by rw [hc, e i hi]⟩

def LawPost (w : World) (e : Ending) (w' : World) : Prop := e = .returned (.bool true) ∧ Below w.heap.size w w'

set_option maxHeartbeats 1000000 in
theorem law_walk (w : World) (a0 a1 a2 a3 : Option Addr) (n0 n1 n2 n3 c0 c1 c2 c3 : Nat) (g S p q : Nat → Int)
    (z0 : a0.isNone = true → n0 = 0) (z1 : a1.isNone = true → n1 = 0) (z2 : a2.isNone = true → n2 = 0) (z3 : a3.isNone = true → n3 = 0)
    (m0 : n0 ≤ maxLen) (m1 : n1 ≤ maxLen) (m2 : n2 ≤ maxLen) (m3 : n3 ≤ maxLen)
    (hg : ∀ x, x < n0 → -2147483648 ≤ g x ∧ g x ≤ 2147483647)
    (r0 : Row .i32 w a0 n0 g) (r1 : Row .i64 w a1 n1 S) (r2 : Row .i64 w a2 n2 p) (r3 : Row .i64 w a3 n3 q) :
    Calls Try.prog 6 #[.slice a0 n0 c0, .slice a1 n1 c1, .slice a2 n2 c2, .slice a3 n3 c3] w (LawPost w) := by
  unfold maxLen at m0 m1 m2 m3
  have f35 := nnil35
  have HG : Hid ((∀ x, x < n0 → -2147483648 ≤ g x ∧ g x ≤ 2147483647) ∧ Row .i32 w a0 n0 g ∧ Row .i64 w a1 n1 S ∧ Row .i64 w a2 n2 p ∧ Row .i64 w a3 n3 q ∧ (a0.isNone = true → n0 = 0) ∧ (a1.isNone = true → n1 = 0) ∧ (a2.isNone = true → n2 = 0) ∧ (a3.isNone = true → n3 = 0)) := ⟨hg, r0, r1, r2, r3, z0, z1, z2, z3⟩
  clear hg r0 r1 r2 r3 z0 z1 z2 z3
  by_cases l0 : 65536 < n0
  · go_enter Try.func6, Try.ntmps6
    go_wp2_with fail
    refine (zzBytes_any w a0 a1 a2 a3 n0 n1 n2 n3 c0 c1 c2 c3).mono ?_
    rintro e w' ⟨r, rfl, rfl⟩
    cases r <;> go_wp2 <;> (go_ret; exact ⟨rfl, Below.refl _ _⟩)
  by_cases l1 : 65536 < n1
  · go_enter Try.func6, Try.ntmps6
    go_wp2_with fail
    refine (zzBytes_any w a0 a1 a2 a3 n0 n1 n2 n3 c0 c1 c2 c3).mono ?_
    rintro e w' ⟨r, rfl, rfl⟩
    cases r <;> go_wp2 <;> (go_ret; exact ⟨rfl, Below.refl _ _⟩)
  by_cases l2 : 65536 < n2
  · go_enter Try.func6, Try.ntmps6
    go_wp2_with fail
    refine (zzBytes_any w a0 a1 a2 a3 n0 n1 n2 n3 c0 c1 c2 c3).mono ?_
    rintro e w' ⟨r, rfl, rfl⟩
    cases r <;> go_wp2 <;> (go_ret; exact ⟨rfl, Below.refl _ _⟩)
  by_cases l3 : 65536 < n3
  · go_enter Try.func6, Try.ntmps6
    go_wp2_with fail
    refine (zzBytes_any w a0 a1 a2 a3 n0 n1 n2 n3 c0 c1 c2 c3).mono ?_
    rintro e w' ⟨r, rfl, rfl⟩
    cases r <;> go_wp2 <;> (go_ret; exact ⟨rfl, Below.refl _ _⟩)
  by_cases lt : 1048576 < 4 * n0 + 8 * (n1 + n2 + n3)
  · go_enter Try.func6, Try.ntmps6
    go_wp2_with fail
    refine (zzBytes_any w a0 a1 a2 a3 n0 n1 n2 n3 c0 c1 c2 c3).mono ?_
    rintro e w' ⟨r, rfl, rfl⟩
    cases r <;> go_wp2 <;> (go_ret; exact ⟨rfl, Below.refl _ _⟩)
  go_enter Try.func6, Try.ntmps6
  go_wp2_with fail
  refine (zzBytes_any w a0 a1 a2 a3 n0 n1 n2 n3 c0 c1 c2 c3).mono ?_
  rintro e w' ⟨r, rfl, rfl⟩
  cases r with
  | false =>
    go_wp2
    go_ret
    exact ⟨rfl, Below.refl _ _⟩
  | true =>
    go_wp2_with fail
    refine (claimPartition_any w' a0 a1 a2 a3 n0 n1 n2 n3 c0 c1 c2 c3 g S p q (by omega) (by omega) (by omega) (by omega) HG.out.1 HG.out.2.1 HG.out.2.2.1 HG.out.2.2.2.1 HG.out.2.2.2.2.1).mono ?_
    rintro e w1 ⟨r, rfl, hb1, hpf⟩
    cases r with
    | false =>
      clear hpf
      go_wp2
      go_ret
      exact ⟨rfl, hb1⟩
    | true =>
      have HP : Hid (PartFacts a0 a2 a3 n0 n1 n2 n3 g S p q) := hpf rfl
      clear hpf
      have r0 := HG.out.2.1.below hb1
      have r1 := HG.out.2.2.1.below hb1
      have r2 := HG.out.2.2.2.1.below hb1
      have r3 := HG.out.2.2.2.2.1.below hb1
      have HR : Hid (Row .i32 w1 a0 n0 g ∧ Row .i64 w1 a1 n1 S ∧ Row .i64 w1 a2 n2 p ∧ Row .i64 w1 a3 n3 q) := ⟨r0, r1, r2, r3⟩
      clear r0 r1 r2 r3
      go_wp2_with fail
      refine (cloneInt32s_any w1 a0 n0 c0 g (by omega) HG.out.2.2.2.2.2.1 HR.out.1).mono ?_
      rintro e w2 ⟨b0, d0, rfl, e0, q0, hb2⟩
      have H0 : Hid (b0.isNone = a0.isNone ∧ Row .i32 w2 b0 n0 g) := ⟨e0, q0⟩
      clear e0 q0
      go_wp2_with fail
      refine (cloneInts_any w2 a1 n1 c1 S (by omega) HG.out.2.2.2.2.2.2.1 (HR.out.2.1.below hb2)).mono ?_
      rintro e w3 ⟨b1, d1, rfl, e1, q1, hb3⟩
      have H1 : Hid (b1.isNone = a1.isNone ∧ Row .i64 w3 b1 n1 S) := ⟨e1, q1⟩
      clear e1 q1
      go_wp2_with fail
      refine (cloneInts_any w3 a2 n2 c2 p (by omega) HG.out.2.2.2.2.2.2.2.1 ((HR.out.2.2.1.below hb2).below hb3)).mono ?_
      rintro e w4 ⟨b2, d2, rfl, e2, q2, hb4⟩
      have H2 : Hid (b2.isNone = a2.isNone ∧ Row .i64 w4 b2 n2 p) := ⟨e2, q2⟩
      clear e2 q2
      go_wp2_with fail
      refine (cloneInts_any w4 a3 n3 c3 q (by omega) HG.out.2.2.2.2.2.2.2.2 (((HR.out.2.2.2.below hb2).below hb3).below hb4)).mono ?_
      rintro e w5 ⟨b3, d3, rfl, e3, q3, hb5⟩
      have H3 : Hid (b3.isNone = a3.isNone ∧ Row .i64 w5 b3 n3 q) := ⟨e3, q3⟩
      clear e3 q3
      have hS : ∀ c, c < n1 → 0 ≤ S c ∧ S c ≤ 65536 := fun c hc => by
        have h1 := HP.out.size c hc
        have h2 := cnt_le (cls g c) n0
        omega
      have HS : Hid (∀ c, c < n1 → 0 ≤ S c ∧ S c ≤ 65536) := hS
      clear hS
      go_wp2_with fail
      refine (zz_gone w5 b0 b1 b2 b3 n0 n1 n2 n3 d0 d1 d2 d3 g S q (by omega) (by omega) (by omega) (H0.out.1.trans HP.out.h0) (H2.out.1.trans HP.out.h2) (H3.out.1.trans HP.out.h3)
        (((H0.out.2.below hb3).below hb4).below hb5) ((H1.out.2.below hb4).below hb5) H3.out.2 HP.out.rng HP.out.rq HS.out).mono ?_
      rintro e w6 ⟨x6, rfl, hr6, hb6⟩
      have H6 : Hid (Row .i64 w6 (some x6) n1 (fun c => S c + (-1) * (cnt (qcl g q c) n3 : Nat))) := hr6
      clear hr6
      go_wp2_with fail
      refine (zz_ids w6 b0 b1 b2 n0 n1 n2 d0 d1 d2 g p (by omega) (by omega) (by omega) (H0.out.1.trans HP.out.h0) (H2.out.1.trans HP.out.h2)
        ((((H0.out.2.below hb3).below hb4).below hb5).below hb6) ((H2.out.2.below hb5).below hb6) HP.out.rng HP.out.rp).mono ?_
      rintro e w7 ⟨x7, rfl, hr7, hb7⟩
      have H7 : Hid (Row .i64 w7 (some x7) n1 (fun c => 0 + 1 * (cnt (qcl g p c) n2 : Nat))) := hr7
      clear hr7
      go_wp2_with fail
      refine (sameInts_eq w7 (some x6) (some x7) n1 n1 n1 _ (by omega) ((H6.out.below hb7).congr (fun c hc => counts_agree HP.out c hc)) H7.out).mono ?_
      rintro e w8 ⟨rfl, hb8⟩
      go_wp2
      go_ret
      exact ⟨rfl, bthen (bthen (bthen (bthen (bthen (bthen (bthen hb1 hb2) hb3) hb4) hb5) hb6) hb7) hb8⟩

end Go.Proofs.Qxb6601940a
