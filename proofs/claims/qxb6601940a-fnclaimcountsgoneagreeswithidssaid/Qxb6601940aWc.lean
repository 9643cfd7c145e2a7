import Derived.Test.Qxb6601940aWb
namespace Go.Proofs.Qxb6601940a
open Go.RowKit
set_option linter.unusedVariables false

def cls (g : Nat → Int) (c : Nat) : Nat → Bool := fun x => decide (g x = (c : Int))

structure PartFacts (a0 a2 a3 : Option Addr) (n0 n1 n2 n3 : Nat) (g S p q : Nat → Int) : Prop where
  h0 : a0.isNone = false
  h2 : a2.isNone = false
  h3 : a3.isNone = false
  len : n2 + n3 = n0
  rng : ∀ x, x < n0 → 0 ≤ g x ∧ g x < n1
  size : ∀ c, c < n1 → S c = cnt (cls g c) n0
  rp : ∀ i, i < n2 → 0 ≤ p i ∧ p i < n0
  rq : ∀ i, i < n3 → 0 ≤ q i ∧ q i < n0
  sum : ∀ c, cnt (cls g c) n0 = cnt (fun i => cls g c (p i).toNat) n2 + cnt (fun i => cls g c (q i).toNat) n3

def PartPost (w : World) (a0 a2 a3 : Option Addr) (n0 n1 n2 n3 : Nat) (g S p q : Nat → Int) (e : Ending) (w' : World) : Prop :=
  ∃ r, e = .returned (.bool r) ∧ Below w.heap.size w w' ∧ (r = true → PartFacts a0 a2 a3 n0 n1 n2 n3 g S p q)

/-- What the tally holds after j nodes. -/
def Tally (wr : World) (tb n1 : Nat) (g : Nat → Int) (j : Nat) : Prop :=
  wr.rowIs tb 3 n1 (fun c => .int .i64 (cnt (cls g c) j : Nat)) ∧ ∀ x, x < j → 0 ≤ g x ∧ g x < n1

theorem Tally.step {wr : World} {tb n1 : Nat} {g : Nat → Int} {j : Nat} (h : Tally wr tb n1 g j) {x : Nat} (hx : g j = x) (hxn : x < n1) :
    Tally (wr.setCell ⟨tb, x, none⟩ (.int .i64 ((cnt (cls g x) j : Nat) + 1))) tb n1 g (j + 1) := by
  refine ⟨(h.1.set x _).congr (fun c hc => ?_), fun y hy => ?_⟩
  · by_cases e : c = x
    · subst e
      simp [cnt, cls, hx]
    · rw [if_neg e]
      have : cls g c j = false := by simp [cls, hx]; omega
      simp [cnt, this]
  · by_cases e : y = j
    · subst e; omega
    · exact h.2 y (by omega)

theorem cnt_true : ∀ n, cnt (fun _ => true) n = n
  | 0 => rfl
  | n + 1 => by simp [cnt, cnt_true n]

theorem marks_sum {w1 w2 : World} {mb n0 n2 n3 : Nat} {p q : Nat → Int} {M1 : Nat → Bool} (hlen : n2 + n3 = n0) (h1 : ∀ t : Nat → Bool, cnt (fun y => M1 y && t y) n0 = cnt (fun y => false && t y) n0 + cnt (fun i => t (p i).toNat) n2)
    (h2 : Marked w2 mb n0 M1 q n3) (t : Nat → Bool) : cnt t n0 = cnt (fun i => t (p i).toNat) n2 + cnt (fun i => t (q i).toNat) n3 := by
  obtain ⟨M2, _, _, h2⟩ := h2
  have z : ∀ t : Nat → Bool, cnt (fun y => false && t y) n0 = 0 := fun t => cnt_zero (fun i _ => by simp)
  have hall := h2 (fun _ => true)
  rw [h1, z, cnt_true, cnt_true] at hall
  have hM : ∀ x, x < n0 → M2 x = true := by
    have : cnt M2 n0 = n0 := by
      rw [← hlen, show cnt M2 (n2 + n3) = cnt (fun y => M2 y && true) (n2 + n3) from cnt_congr (fun i _ => by simp), hlen]
      rw [hall]; omega
    exact cnt_full this
  have ht := h2 t
  rw [h1, z] at ht
  rw [show cnt t n0 = cnt (fun y => M2 y && t y) n0 from cnt_congr (fun i hi => by simp [hM i hi]), ht]
  omega

set_option maxHeartbeats 1000000 in
theorem claimPartition_any (w : World) (a0 a1 a2 a3 : Option Addr) (n0 n1 n2 n3 c0 c1 c2 c3 : Nat) (g S p q : Nat → Int)
    (l0 : n0 ≤ 65536) (l1 : n1 ≤ 65536) (l2 : n2 ≤ 65536) (l3 : n3 ≤ 65536)
    (hg : ∀ x, x < n0 → -2147483648 ≤ g x ∧ g x ≤ 2147483647)
    (r0 : Row .i32 w a0 n0 g) (r1 : Row .i64 w a1 n1 S) (r2 : Row .i64 w a2 n2 p) (r3 : Row .i64 w a3 n3 q) :
    Calls Try.prog 28 #[.slice a0 n0 c0, .slice a1 n1 c1, .slice a2 n2 c2, .slice a3 n3 c3] w (PartPost w a0 a2 a3 n0 n1 n2 n3 g S p q) := by
  have e34 := nil34
  have e35 := nil35
  by_cases h0 : a0.isNone = true
  · go_enter Try.func28, Try.ntmps28
    go_wp2
    go_ret
    exact ⟨_, rfl, Below.refl _ _, fun h => by cases h⟩
  by_cases h2 : a2.isNone = true
  · go_enter Try.func28, Try.ntmps28
    go_wp2
    all_goals (go_ret; exact ⟨_, rfl, Below.refl _ _, fun h => by cases h⟩)
  by_cases h3 : a3.isNone = true
  · go_enter Try.func28, Try.ntmps28
    go_wp2
    all_goals (go_ret; exact ⟨_, rfl, Below.refl _ _, fun h => by cases h⟩)
  have h0' : a0.isNone = false := Bool.eq_false_iff.2 h0
  have h2' : a2.isNone = false := Bool.eq_false_iff.2 h2
  have h3' : a3.isNone = false := Bool.eq_false_iff.2 h3
  clear h0 h2 h3
  by_cases hl : ((n2 : Int) + (n3 : Int) != (n0 : Int)) = true
  · go_enter Try.func28, Try.ntmps28
    go_wp2
    go_ret
    exact ⟨_, rfl, Below.refl _ _, fun h => by cases h⟩
  have hl' : ((n2 : Int) + (n3 : Int) != (n0 : Int)) = false := by simpa using hl
  have hlen : n2 + n3 = n0 := by simp at hl; omega
  clear hl
  have HG : Hid ((∀ x, x < n0 → -2147483648 ≤ g x ∧ g x ≤ 2147483647) ∧ Row .i32 w a0 n0 g ∧ Row .i64 w a1 n1 S ∧ Row .i64 w a2 n2 p ∧ Row .i64 w a3 n3 q ∧ n2 + n3 = n0) := ⟨hg, r0, r1, r2, r3, hlen⟩
  clear hg r0 r1 r2 r3 hlen
  have hmk := run_make_row' (P := Try.prog) 35 3 (.int .i64 0) 8 Try.underlying35 Try.info3 rfl .i64 .i64 n1 (by omega) (by omega)
  have hmk2 := run_make_row' (P := Try.prog) 47 4 (.bool false) 1 Try.underlying47 Try.info4 rfl .i64 .i64 n0 (by omega) (by omega)
  have hst : Hid (Tally (w.alloc (.cells (madeCells #[.int .i64 0] n1) 3)) w.heap.size n1 g 0) := ⟨(World.rowIs_made w (.int .i64 0) n1 3).congr (fun i _ => by simp [cnt]), fun i hi => by omega⟩
  go_enter Try.func28, Try.ntmps28
  go_wp2
  go_loopg [10] n0 (fun k i wr => ∃ j : Nat, j ≤ n0 ∧ k = n0 - j ∧ i = .int .i64 j ∧ Hid (Tally wr w.heap.size n1 g j) ∧ wr.heap.size = w.heap.size + 1 ∧ Below w.heap.size w wr)
  case atStart => exact ⟨0, by omega, by omega, rfl, hst, by simp, (Below.refl _ _).alloc (Nat.le_refl _) _⟩
  case round =>
    obtain ⟨j, hj, rfl, rfl, ht, hsz, hbel⟩ := hrel
    clear hst hmk
    by_cases hlt : j < n0
    · obtain ⟨b, o, e, _, h1⟩ := HG.out.2.1.below hbel j hlt
      subst e
      obtain ⟨hb1, hb2⟩ := HG.out.1 j hlt
      clear hmk2
      by_cases hneg : g j < 0
      · go_wp2
        go_ret
        exact ⟨_, rfl, hbel, fun h => by cases h⟩
      by_cases hge : (n1 : Int) ≤ g j
      · go_wp2
        go_ret
        exact ⟨_, rfl, hbel, fun h => by cases h⟩
      obtain ⟨x, hx⟩ := Int.eq_ofNat_of_zero_le (show 0 ≤ g j by omega)
      have hxn : x < n1 := by omega
      have R : Hid (Tally (wr.setCell ⟨w.heap.size, x, none⟩ (.int .i64 ((cnt (cls g x) j : Nat) + 1))) w.heap.size n1 g (j + 1)) := ht.out.step hx hxn
      have hcl := cnt_le (cls g x) j
      have t1 := ht.out.1.cell hxn
      have t2 := ht.out.1.frozen x
      generalize cnt (cls g x) j = cc at *
      rw [hx] at h1
      clear hx hneg hge hb1 hb2
      go_wp2
      go_roundg (n0 - (j + 1))
      case measure => omega
      case rel => go_light; exact ⟨j + 1, by omega, rfl, by go_num, R, by simp [hsz], hbel.setCell (Nat.le_refl _) _⟩
    · have e : n0 = j := by omega
      subst e
      clear hlt hj
      go_wp2
      go_loopg [12] n1 (fun k i w2 => ∃ j : Nat, j ≤ n1 ∧ k = n1 - j ∧ i = .int .i64 j ∧ Hid (Tally w2 w.heap.size n1 g n0 ∧ ∀ c, c < j → S c = cnt (cls g c) n0) ∧ w2.heap.size = w.heap.size + 1 ∧ Below w.heap.size w w2)
      case atStart => exact ⟨0, by omega, by omega, rfl, ⟨ht.out, fun c hc => by omega⟩, hsz, hbel⟩
      case round =>
        clear ht hsz hbel
        obtain ⟨j, hj, rfl, rfl, ht, hsz, hbel⟩ := hrel
        by_cases hlt : j < n1
        · obtain ⟨b, o, e, _, h1⟩ := HG.out.2.2.1.below hbel j hlt
          subst e
          have t1 := ht.out.1.1.cell hlt
          have hltI : (j : Int) < (n1 : Int) := by omega
          clear hmk2
          by_cases hS : S j = cnt (cls g j) n0
          · have HS : Hid (S j = cnt (cls g j) n0) := hS
            have hne : (((cnt (cls g j) n0 : Nat) : Int) != S j) = false := by simp [hS]
            clear hS
            go_wp2
            go_quiet (fail)
            go_wp2
            go_roundg (n1 - (j + 1))
            case measure => omega
            case rel =>
              go_light
              exact ⟨j + 1, by omega, rfl, by go_num, ⟨ht.out.1, fun c hc => by
                by_cases e : c = j
                · subst e; exact HS.out
                · exact ht.out.2 c (by omega)⟩, hsz, below_drewN hbel _⟩
          · have hne : (((cnt (cls g j) n0 : Nat) : Int) != S j) = true := by rw [bne_iff_ne]; exact fun h => hS h.symm
            clear hS
            go_wp2
            go_quiet (fail)
            go_wp2
            go_ret
            exact ⟨_, rfl, below_drewN hbel _, fun h => by cases h⟩
        · have e : n1 = j := by omega
          subst e
          clear hlt hj
          have HH : Hid (wr.heap.size = w.heap.size + 1) := hsz
          clear hsz
          go_wp2_with fail
          have hbA : Below w.heap.size w (wr.alloc (.cells (madeCells #[.bool false] n0) 4)) := hbel.alloc hbel.size _
          have hsA : (wr.alloc (.cells (madeCells #[.bool false] n0) 4)).heap.size = wr.heap.size + 1 := by simp
          have hltw : w.heap.size ≤ wr.heap.size := hbel.size
          refine (markOnce_any (wr.alloc (.cells (madeCells #[.bool false] n0) 4)) wr.heap.size n0 n0 (fun _ => false) a2 n2 c2 p (by omega) (by omega) (World.rowIs_made wr (.bool false) n0 4) (HG.out.2.2.2.1.below hbA) (HG.out.2.2.2.1.ne hltw)).mono ?_
          rintro e w1 ⟨r, rfl, hon1, hm1⟩
          have hb1 : Below w.heap.size w w1 := hon1.below hbA hltw
          cases r with
          | false =>
            clear hm1 hmk2
            go_wp2
            go_ret
            exact ⟨_, rfl, hb1, fun h => by cases h⟩
          | true =>
            obtain ⟨M1, hrow1, hr1, hc1⟩ := hm1 rfl
            have HC : Hid ((∀ i, i < n2 → 0 ≤ p i ∧ p i < n0) ∧ ∀ t : Nat → Bool, cnt (fun y => M1 y && t y) n0 = cnt (fun y => false && t y) n0 + cnt (fun i => t (p i).toNat) n2) := ⟨hr1, hc1⟩
            have HR1 : Hid (w1.rowIs wr.heap.size 4 n0 (fun i => .bool (M1 i))) := hrow1
            clear hm1 hmk2 hr1 hc1 hrow1
            go_wp2_with fail
            refine (markOnce_any w1 wr.heap.size n0 n0 M1 a3 n3 c3 q (by omega) (by omega) HR1.out (HG.out.2.2.2.2.1.below hb1) (HG.out.2.2.2.2.1.ne hltw)).mono ?_
            rintro e w2 ⟨r, rfl, hon2, hm2⟩
            have hb2 : Below w.heap.size w w2 := hon2.below hb1 hltw
            have HM : Hid (r = true → Marked w2 wr.heap.size n0 M1 q n3) := hm2
            clear hm2
            go_wp2
            go_ret
            refine ⟨_, rfl, hb2, fun h => ?_⟩
            obtain ⟨M2, hr2, hrq, hc2⟩ := HM.out h
            exact ⟨h0', h2', h3', HG.out.2.2.2.2.2, ht.out.1.2, ht.out.2, HC.out.1, hrq, fun c => marks_sum (w1 := w1) HG.out.2.2.2.2.2 HC.out.2 (HM.out h) _⟩

end Go.Proofs.Qxb6601940a
