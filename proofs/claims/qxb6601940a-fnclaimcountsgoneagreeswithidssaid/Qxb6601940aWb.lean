import Derived.Test.Qxb6601940aWa
namespace Go.Proofs.Qxb6601940a
open Go.RowKit
set_option linter.unusedVariables false

/-- What marking j of the numbers has done. -/
def Marked (wr : World) (mb n : Nat) (M : Nat → Bool) (f : Nat → Int) (j : Nat) : Prop :=
  ∃ M' : Nat → Bool, wr.rowIs mb 4 n (fun i => .bool (M' i)) ∧ (∀ i, i < j → 0 ≤ f i ∧ f i < n) ∧ ∀ q : Nat → Bool, cnt (fun y => M' y && q y) n = cnt (fun y => M y && q y) n + cnt (fun i => q (f i).toNat) j

def MarkPost (w : World) (mb n : Nat) (M : Nat → Bool) (f : Nat → Int) (m : Nat) (e : Ending) (w' : World) : Prop :=
  ∃ r, e = .returned (.bool r) ∧ Only mb w w' ∧ (r = true → Marked w' mb n M f m)

set_option maxHeartbeats 1000000 in
theorem markOnce_any (w : World) (mb n c : Nat) (M : Nat → Bool) (a : Option Addr) (m cx : Nat) (f : Nat → Int) (hn : n ≤ 1048576) (hm : m ≤ 1048576)
    (hM : w.rowIs mb 4 n (fun i => .bool (M i))) (hR : Row .i64 w a m f) (hab : 0 < m → ∀ x, a = some x → x.block ≠ mb) :
    Calls Try.prog 41 #[.slice (some ⟨mb, 0, none⟩) n c, .slice a m cx] w (MarkPost w mb n M f m) := by
  have HR : Hid (Row .i64 w a m f ∧ (0 < m → ∀ x, a = some x → x.block ≠ mb)) := ⟨hR, hab⟩
  have HM : Hid (Marked w mb n M f 0) := ⟨M, hM, fun i hi => by omega, fun q => by simp [cnt]⟩
  clear hR hab hM
  go_enter Try.func41, Try.ntmps41
  go_wp2
  go_loopg [5] m (fun k i wr => ∃ j : Nat, j ≤ m ∧ k = m - j ∧ i = .int .i64 j ∧ Hid (Marked wr mb n M f j) ∧ Only mb w wr)
  case atStart => exact ⟨0, by omega, by omega, rfl, HM, Only.refl _ _⟩
  case round =>
    obtain ⟨j, hj, rfl, rfl, hmk, hon⟩ := hrel
    by_cases hlt : j < m
    · obtain ⟨b, o, e, _, h1⟩ := hon.row HR.out.1 HR.out.2 j hlt
      subst e
      by_cases h0 : f j < 0
      · go_wp2
        go_ret
        exact ⟨_, rfl, hon, fun h => by cases h⟩
      by_cases hge : (n : Int) ≤ f j
      · go_wp2
        go_ret
        exact ⟨_, rfl, hon, fun h => by cases h⟩
      obtain ⟨x, hx⟩ := Int.eq_ofNat_of_zero_le (show 0 ≤ f j by omega)
      rw [hx] at h1
      have hxn : x < n := by omega
      obtain ⟨M', hrow, hrng, hq⟩ := hmk.out
      have h2 := hrow.cell hxn
      have h3 := hrow.frozen x
      by_cases hmx : M' x = true
      · rw [hmx] at h2
        clear hq hrow hx h0 hge
        go_wp2
        go_ret
        exact ⟨_, rfl, hon, fun h => by cases h⟩
      · have hmf : M' x = false := by simpa using hmx
        have R : Marked (wr.setCell ⟨mb, x, none⟩ (.bool true)) mb n M f (j + 1) := by
          refine ⟨fun y => decide (y = x) || M' y, (hrow.set x (.bool true)).congr (fun i hi => ?_), fun i hi => ?_, fun q => ?_⟩
          · by_cases e : i = x <;> simp [e]
          · by_cases e : i = j
            · subst e; omega
            · exact hrng i (by omega)
          · rw [cnt_set hmf, hq q]
            simp only [cnt, hx, Int.toNat_natCast, hxn, true_and]
            omega
        have HRR : Hid (Marked (wr.setCell ⟨mb, x, none⟩ (.bool true)) mb n M f (j + 1)) := R
        rw [hmf] at h2
        clear hq hrow hx h0 hge R hrng hmx hmf hmk
        go_wp2
        go_roundg (m - (j + 1))
        case measure => omega
        case rel => go_light; exact ⟨j + 1, by omega, rfl, by go_num, HRR, hon.setCell _ _⟩
    · have e : j = m := by omega
      subst e
      go_wp2
      go_ret
      exact ⟨_, rfl, hon, fun _ => hmk.out⟩

end Go.Proofs.Qxb6601940a
