import Derived.Test.Qxb6601860aWf
namespace Go.Proofs.Qxb6601860a
open Go.RowKit
set_option linter.unusedVariables false

set_option maxHeartbeats 1000000 in
theorem zzCycle_any (G : Gr) (w : World) (T S : Option Addr) (cT cS : Nat) (f : Nat → Int) (hS : Small G) (hT : Row .i64 w T G.n f) (hM : InMem w S G) :
    Calls Try.prog 21 #[.slice T G.n cT, .slice S G.n cS] w (CyclePost G w f) := by
  have HG : Hid (Row .i64 w T G.n f ∧ InMem w S G ∧ Small G) := ⟨hT, hM, hS⟩
  clear hT hM hS
  have hb : ∀ O, Below w.heap.size w (w.alloc O) := fun O => (Below.refl _ _).alloc (Nat.le_refl _) _
  go_enter Try.func21, Try.ntmps21
  go_wp2_with fail
  refine (cycle_any G _ w.heap.size T S cT cS f HG.out.2.2 (by simp) (by simp) (by simp) (HG.out.1.below (hb _)) (Lists.below HG.out.2.1 (hb _))).mono ?_
  rintro e w1 ⟨hb1, h⟩
  have HB : Hid (Below w.heap.size w w1) := bthen (hb _) hb1
  clear hb1
  rcases h with ⟨rfl, h⟩ | ⟨g, c, start, l, rfl, hc, ho⟩
  · have H : Hid (∀ v, v < G.n → ¬ Multi G v) := h
    clear h
    go_wp2
    go_ret
    exact ⟨HB.out, .inl ⟨rfl, H.out⟩⟩
  · have H : Hid (Cyc G start l ∧ w1.ownsRow w.heap.size 3 1 (.slice (some ⟨g, 0, none⟩) (l.length + 1) c) (l.length + 1) (vals f (start :: l))) := by
      refine ⟨hc, ho.1, ?_⟩
      rcases ho.2 with h | ⟨g', c', cur, h1, h2, h3⟩
      · exact .inl h
      · exact .inr ⟨g', c', cur, h1, by simp at h2; omega, h3⟩
    clear hc ho
    go_wp2
    go_ret
    exact ⟨HB.out, .inr ⟨_, _, _, _, rfl, H.out.1, H.out.2⟩⟩
end Go.Proofs.Qxb6601860a
