import Derived.Test.Qxb6601860aWd
import Derived.Test.Qxb6601860aMb
import Derived.Test.Qxb6601860aBa
namespace Go.Proofs.Qxb6601860a
open Go.RowKit
set_option linter.unusedVariables false

def vals (f : Nat → Int) (l : List Nat) : List Value := l.map (fun v => Value.int .i64 (f v))
theorem vals_length (f : Nat → Int) (l : List Nat) : (vals f l).length = l.length := by simp [vals]
theorem vals_app (f : Nat → Int) (l : List Nat) (v : Nat) : vals f (l ++ [v]) = vals f l ++ [.int .i64 (f v)] := by simp [vals]
theorem vals_get (f : Nat → Int) (l : List Nat) (k : Nat) (h : k < l.length) : (vals f l)[k]? = some (.int .i64 (f (l[k]))) := by simp [vals, h]

def PathPost (w : World) (f : Nat → Int) (start : Nat) (l : List Nat) (e : Ending) (w' : World) : Prop :=
  ∃ g c, e = .returned (.slice (some ⟨g, 0, none⟩) (l.length + 1) c) ∧ w'.ownsRow w.heap.size 3 1 (.slice (some ⟨g, 0, none⟩) (l.length + 1) c) (l.length + 1) (vals f (start :: l.reverse)) ∧ Below w.heap.size w w'

structure Path1 (w : World) (f : Nat → Int) (par : Nat → Nat) (start : Nat) (l pre rest : List Nat) (v : Value) (i : Nat) (wr : World) : Prop where
  split : l = pre ++ rest
  chain : Chain par start rest i
  own : wr.ownsRow w.heap.size 3 1 v pre.length (vals f pre)
  bel : Below w.heap.size w wr

structure Path2 (w : World) (B : Nat) (f : Nat → Int) (q : List Nat) (m : Nat) (v9 v : Value) (j : Nat) (wr : World) : Prop where
  lt : ∀ k, v9.ownBlock = some k → k < B
  le : w.heap.size ≤ B
  sz : B ≤ wr.heap.size
  own9 : wr.ownsRow w.heap.size 3 1 v9 m (vals f q.reverse)
  own : wr.ownsRow B 3 1 v j (vals f (q.take j))
  bel : Below w.heap.size w wr

set_option maxHeartbeats 2000000 in
theorem path_any (w : World) (gb : Nat) (T P : Option Addr) (cT cP n start i : Nat) (f : Nat → Int) (par : Nat → Nat) (l : List Nat)
    (hg : w.cell? ⟨gb, 0, none⟩ = some (.slice T n cT)) (hgb : gb < w.heap.size) (hT : Row .i64 w T n f) (hP : Row .i64 w P n (fun v => ((par v : Nat) : Int))) (hC : Chain par start l i)
    (hl : ∀ x, x ∈ l → x < n) (hs : start < n) (hn : n ≤ 65536) (hll : l.length ≤ 65536) (hpb : ∀ x, x < n → par x ≤ 65537) :
    Calls Try.prog 26 #[.pointer (some ⟨gb, 0, none⟩), .slice P n cP, .int .i64 start, .int .i64 i] w (PathPost w f start l) := by
  have HT : Hid (Row .i64 w T n f ∧ Row .i64 w P n (fun v => ((par v : Nat) : Int)) ∧ w.cell? ⟨gb, 0, none⟩ = some (.slice T n cT) ∧ (∀ x, x ∈ l → x < n) ∧ ∀ x, x < n → par x ≤ 65537) := ⟨hT, hP, hg, hl, hpb⟩
  have H0 : Hid (Path1 w f par start l [] l (.slice none 0 0) i w) := ⟨rfl, hC, ⟨rfl, .inl ⟨rfl, rfl⟩⟩, Below.refl _ _⟩
  clear hT hP hC hl hg hpb
  obtain ⟨i0, hi0, hz0, hz1, hz3⟩ := info_parts Try.info3
  have hbA : ∀ (wr : World) O, Below w.heap.size w wr → Below w.heap.size w (wr.alloc O) := fun wr O h => h.alloc (by have := h.size; omega) _
  go_enter Try.func26, Try.ntmps26
  go_wp2
  go_loopg [9, 10] (l.length + 1) (fun k v9 v10 wr => ∃ pre rest, ∃ x : Nat, rest.length + 1 = k ∧ v10 = .int .i64 x ∧ Hid (Path1 w f par start l pre rest v9 x wr))
  case atStart => exact ⟨[], l, i, rfl, rfl, H0⟩
  case round =>
    obtain ⟨pre, rest, x, rfl, rfl, hrel⟩ := hrel
    clear H0
    have hT' := HT.out.1.below hrel.out.bel
    have hcg := (hrel.out.bel.cell (p := ⟨gb, 0, none⟩) hgb).trans HT.out.2.2.1
    have hlen : pre.length + rest.length = l.length := by have := congrArg List.length hrel.out.split; simp at this; omega
    have hsz := hrel.out.bel.size
    cases rest with
    | nil =>
      have hx : x = start := hrel.out.chain
      subst hx
      obtain ⟨tb, tof, hTe, _, hTc⟩ := hT' x hs
      subst hTe
      have e : pre = l := by have := hrel.out.split; simpa using this.symm
      subst e
      clear hT' 
      go_wp2_with (at_builtin; refine wpList_append_own _ rfl (.tmp 32) (.tmp 40) 22 rfl w.heap.size 3 i0 (.int .i64 0) 1 8 Try.underlying22 hi0 hz0 hz1 hz3 rfl (by decide) u9 pre.length (vals f pre) rfl (hrel.out.own.alloc _) ⟨wr.heap.size, 0, none⟩ 1 1 [.int .i64 (f x)] rfl rfl (cell_one_new _ _ _) ?c2 ?c3 ?c4 ?c5 ?_)
      case c2 => intro u hu; simp at hu; subst hu; rfl
      case c3 => unfold maxLen; omega
      case c4 => omega
      case c5 => simp; omega
      intro v9 w1 hown1 hg1 _
      have hb1 : Below w.heap.size w w1 := (hbA wr _ hrel.out.bel).grown hg1 (by simp; omega) (fun k hk => (hrel.out.own.lt k hk).1)
      rw [← vals_app] at hown1
      have hlt1 : ∀ k, v9.ownBlock = some k → k < w1.heap.size := fun k hk => (hown1.lt k hk).2
      have hsz1 := hb1.size
      obtain ⟨g9, c9, cur, rfl, _⟩ := owns_some (m := pre.length) hown1
      clear hrel HT hcg hTc hlen
      revert hown1
      generalize hm : pre.length + 1 = m at *
      intro hown1
      have HO : Hid (w1.ownsRow w.heap.size 3 1 (.slice (some ⟨g9, 0, none⟩) m c9) m (vals f (pre ++ [x]))) := hown1
      have Hm : Hid (pre.length + 1 = m) := hm
      have hml : m ≤ 65537 := by omega
      clear hown1 hg1 hm hll
      go_wp2_with (at_make; refine wpList_make_own _ rfl _ _ 22 rfl w1.heap.size 3 i0 (.int .i64 0) 1 Try.underlying22 hi0 hz0 hz1 .i64 .i64 _ m rfl rfl (by omega) (by rw [hz3]; omega) (by unfold maxLen; omega) (Nat.le_refl _) ?_)
      intro w2 hown2 hg2
      have P0 : Hid (Path2 w w1.heap.size f (x :: pre.reverse) m (.slice (some ⟨g9, 0, none⟩) m c9) (.slice (some ⟨w1.heap.size, 0, none⟩) 0 m) 0 w2) :=
        ⟨hlt1, hsz1, hg2.size, by
          have e : (x :: pre.reverse).reverse = pre ++ [x] := by simp
          rw [e]
          exact owns_of_block HO.out (fun k hk => hg2.block k (hlt1 k hk) (by simp)), hown2, hb1.grown hg2 (by omega) (fun k hk => by cases hk)⟩
      generalize w1.heap.size = B at *
      clear HO hown2 hg2 hb1 hsz1 hlt1
      have hqm : (x :: pre.reverse).length = m := by have := Hm.out; simp; omega
      generalize hq : x :: pre.reverse = q at *
      go_wp2_with fail
      go_loopg [11, 12] m (fun k v11 v12 wr => ∃ j : Nat, j ≤ m ∧ m - j = k ∧ v12 = .int .i64 ((m : Int) - 1 - (j : Int)) ∧ Hid (Path2 w B f q m (.slice (some ⟨g9, 0, none⟩) m c9) v11 j wr))
      case atStart => exact ⟨0, by omega, rfl, by go_num, P0⟩
      case round =>
        obtain ⟨j, hj, rfl, rfl, hR⟩ := hrel
        clear P0
        by_cases hlt : j < m
        · obtain ⟨y, hqy⟩ : ∃ y, q[j]? = some y := ⟨q[j], by simp⟩
          have hk : q.reverse[m - 1 - j]? = some y := by
            rw [List.getElem?_reverse (by omega)]
            rw [show q.length - 1 - (m - 1 - j) = j by omega]
            exact hqy
          have hc9 : wr.cell? ⟨g9, m - 1 - j, none⟩ = some (.int .i64 (f y)) := cell_owned hR.out.own9 (by unfold vals; rw [List.getElem?_map, hk]; rfl)
          have hjI : ((m : Int) - 1 - (j : Int)) = ((m - 1 - j : Nat) : Int) := by omega
          rw [hjI]
          generalize hjj : m - 1 - j = r at *
          have hrm : r < m := by omega
          have hszB := hR.out.sz
          have hle := hR.out.le
          have Hjj : Hid (m - 1 - j = r) := hjj
          have Htk : Hid (q.take (j + 1) = q.take j ++ [y]) := by
            show q.take (j + 1) = q.take j ++ [y]
            rw [List.take_add_one, hqy]; rfl
          clear hjI hk hjj hq hqy
          go_wp2_with (at_builtin; refine wpList_append_own _ rfl (.tmp 52) (.tmp 57) 22 rfl B 3 i0 (.int .i64 0) 1 8 Try.underlying22 hi0 hz0 hz1 hz3 rfl (by decide) u11 j (vals f (q.take j)) rfl (hR.out.own.alloc _) ⟨wr.heap.size, 0, none⟩ 1 1 [.int .i64 (f y)] rfl rfl (cell_one_new _ _ _) ?e2 ?e3 ?e4 ?e5 ?_)
          case e2 => intro u hu; simp at hu; subst hu; rfl
          case e3 => unfold maxLen; omega
          case e4 => omega
          case e5 => simp; omega
          intro v11 w3 hown3 hg3 _
          rw [← vals_app, ← Htk.out] at hown3
          have R : Hid (Path2 w B f q m (.slice (some ⟨g9, 0, none⟩) m c9) v11 (j + 1) w3) := by
            refine ⟨hR.out.lt, hle, ?_, ?_, hown3, ?_⟩
            · have := hg3.size; simp at this; omega
            · refine owns_of_block hR.out.own9 (fun k hk => ?_)
              have hkB := hR.out.lt k hk
              rw [hg3.block k (by simp; omega) (fun e => by have := (hR.out.own.lt k e.symm).1; omega)]
              exact Below.heap_alloc _ _ _ (by omega)
            · exact (hbA wr _ hR.out.bel).grown hg3 (by simp; omega) (fun k hk => by have := (hR.out.own.lt k hk).1; omega)
          clear hown3 hg3 hR hc9
          go_wp2
          go_roundg (m - (j + 1))
          case measure => omega
          case rel =>
            go_light
            exact ⟨j + 1, by omega, rfl, by have := Hjj.out; go_num, R⟩
        · have e : j = m := by omega
          subst e
          have ho := hR.out.own
          have hb := hR.out.bel
          rw [List.take_of_length_le (by omega)] at ho
          have hj1 : j = pre.length + 1 := Hm.out.symm
          have e2 : ((j : Int) - 1 - (j : Int)) = -1 := by omega
          rw [e2]
          clear e2
          have HF : Hid (∃ g c, u11 = .slice (some ⟨g, 0, none⟩) (pre.length + 1) c ∧ wr.ownsRow w.heap.size 3 1 (.slice (some ⟨g, 0, none⟩) (pre.length + 1) c) (pre.length + 1) (vals f (x :: pre.reverse)) ∧ Below w.heap.size w wr) := by
            have ho' : wr.ownsRow B 3 1 u11 (pre.length + 1) (vals f (x :: pre.reverse)) := by rw [hq, ← hj1]; exact ho
            obtain ⟨g, c, cur, rfl, h1, h2⟩ := owns_some (m := pre.length) ho'
            exact ⟨g, c, rfl, ⟨ho'.1, .inr ⟨g, c, cur, rfl, Nat.le_trans hR.out.le h1, h2⟩⟩, hb⟩
          clear ho hb hR hj1
          go_wp2
          go_ret
          obtain ⟨g, c, rfl, h⟩ := HF.out
          exact ⟨g, c, rfl, h⟩
    | cons y rest =>
      obtain ⟨hxy, hne, hp0, hch⟩ := hrel.out.chain
      subst hxy
      have hxn : x < n := HT.out.2.2.2.1 x (by rw [hrel.out.split]; simp)
      obtain ⟨tb, tof, hTe, _, hTc⟩ := hT' x hxn
      subst hTe
      obtain ⟨pb, pof, hPe, _, hPc⟩ := HT.out.2.1.below hrel.out.bel x hxn
      subst hPe
      clear hT'
      have HC : Hid (Chain par start rest (par x - 1)) := hch
      have hneI : ((x : Int) != (start : Int)) = true := by simp; omega
      have hp1 : ((par x : Nat) : Int) - 1 = ((par x - 1 : Nat) : Int) := by omega
      have Hp1 : Hid (((par x : Nat) : Int) - 1 = ((par x - 1 : Nat) : Int)) := hp1
      clear hch hp1
      have hll2 : pre.length + 1 ≤ l.length := by simp at hlen; omega
      have hpar : par x ≤ 65537 := HT.out.2.2.2.2 x hxn
      go_wp2_with (at_builtin; refine wpList_append_own _ rfl (.tmp 22) (.tmp 30) 22 rfl w.heap.size 3 i0 (.int .i64 0) 1 8 Try.underlying22 hi0 hz0 hz1 hz3 rfl (by decide) u9 pre.length (vals f pre) rfl (hrel.out.own.alloc _) ⟨wr.heap.size, 0, none⟩ 1 1 [.int .i64 (f x)] rfl rfl (cell_one_new _ _ _) ?f2 ?f3 ?f4 ?f5 ?_)
      case f2 => first | rfl | (intro u hu; simp at hu; subst hu; rfl)
      case f3 => unfold maxLen; omega
      case f4 => omega
      case f5 => first | omega | (simp; omega)
      intro v9 w1 hown1 hg1 _
      have hb1 : Below w.heap.size w w1 := (hbA wr _ hrel.out.bel).grown hg1 (by simp; omega) (fun k hk => (hrel.out.own.lt k hk).1)
      rw [← vals_app] at hown1
      have R : Hid (Path1 w f par start l (pre ++ [x]) rest v9 (par x - 1) w1) := ⟨by rw [hrel.out.split]; simp, HC.out, by rw [List.length_append]; exact hown1, hb1⟩
      obtain ⟨pb', pof', hPe', _, hPc'⟩ := HT.out.2.1.below hb1 x hxn
      simp at hPe'
      obtain ⟨rfl, rfl⟩ := hPe'
      clear hown1 hg1 hPc hTc hcg hrel
      go_wp2
      go_roundg (rest.length + 1)
      case measure => simp
      case rel =>
        go_light
        exact ⟨pre ++ [x], rest, par x - 1, rfl, by rw [Hp1.out], R⟩
end Go.Proofs.Qxb6601860a
