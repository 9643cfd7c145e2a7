import Derived.Test.Qxb6601860aKb
import Derived.Test.Qxb6601860aWj
import Derived.Test.Qxb6601860aWk
namespace Go.Proofs.Qxb6601860a
open Go.RowKit
set_option linter.unusedVariables false

theorem graphOf_asc {n : Nat} {D : Nat → Nat} {F : Nat → Nat → Int} (hr : ∀ v, v < n → InRange n D F true v (D v)) : Asc (graphOf n D F) := by
  intro v hv
  have key : ∀ m k, k + m + 1 < D v → F v k < F v (k + m + 1) := by
    intro m k
    induction m with
    | zero =>
      intro h
      have := (hr v hv (k + 0 + 1) h).2.2 rfl (by omega)
      rwa [Nat.add_sub_cancel, Nat.add_zero] at this
    | succ m ih =>
      intro h
      have h1 := ih (by omega)
      have h2 := (hr v hv (k + (m + 1) + 1) h).2.2 rfl (by omega)
      rw [Nat.add_sub_cancel] at h2
      exact Int.lt_trans h1 h2
  intro k k' hk hk'
  have hk2 : k' < D v := hk'
  have h := key (k' - k - 1) k (by omega)
  rw [show k + (k' - k - 1) + 1 = k' by omega] at h
  have h0 := (hr v hv k (by omega)).1
  show (F v k).toNat < (F v k').toNat
  omega

theorem path_lt {G : Gr} (hG : G.Ok) : ∀ {l : List Nat} {u v : Nat}, u < G.n → G.Path u l v → ∀ x, x ∈ l → x < G.n
  | [], u, v, hu, h, x, hx => by cases hx
  | y :: l, u, v, hu, h, x, hx => by
    have hy := h.1.lt hG hu
    rcases List.mem_cons.1 hx with rfl | hx
    · exact hy
    · exact path_lt hG hy h.2 x hx

theorem cyc_same {G : Gr} (hA : Asc G) {start s : Nat} {l P : List Nat} (hc : Cyc G start l) (hs : Multi G s) (hl : ∀ u, u < s → ¬ Multi G u) (hcl : Closed G s P) (hmin : ∀ P', Closed G s P' → SLE P P') : s = start ∧ P = l := by
  have e : s = start := by
    rcases Nat.lt_trichotomy s start with h | h | h
    · exact absurd hs (hc.least s h)
    · exact h
    · exact absurd hc.multi (hl start h)
  subst e
  exact ⟨rfl, SLE.anti (hmin l hc.closed) (hc.short hA P hcl)⟩

/-- The two answers, cell by cell. -/
structure Both (n : Nat) (w : World) (a2 : Option Addr) (g g2 m : Nat) (f : Nat → Int) (L : List Nat) : Prop where
  len : L.length = m
  lt : ∀ x, x ∈ L → x < n
  row : Row .i64 w a2 n f
  out : ∀ (t x : Nat), L[t]? = some x → w.cell? ⟨g, t, none⟩ = some (.int .i64 (f x))
  seq : ∀ (t x : Nat), L[t]? = some x → w.cell? ⟨g2, t, none⟩ = some (.int .i64 x)
  gl : g < w.heap.size
  gl2 : g2 < w.heap.size

theorem Both.below {n : Nat} {w w' : World} {a2 : Option Addr} {g g2 m : Nat} {f : Nat → Int} {L : List Nat} (h : Both n w a2 g g2 m f L) (hb : Below w.heap.size w w') : Both n w' a2 g g2 m f L :=
  ⟨h.len, h.lt, h.row.below hb, fun t x hx => (hb.cell (p := ⟨g, t, none⟩) h.gl).trans (h.out t x hx), fun t x hx => (hb.cell (p := ⟨g2, t, none⟩) h.gl2).trans (h.seq t x hx), Nat.lt_of_lt_of_le h.gl hb.size, Nat.lt_of_lt_of_le h.gl2 hb.size⟩

set_option maxHeartbeats 4000000 in
set_option maxRecDepth 100000 in
theorem law6_any (w : World) (a0 a : Option Addr) (n0 c0 n c : Nat) (f : Nat → Int) (D : Nat → Nat) (F : Nat → Nat → Int)
    (hz0 : a0.isNone = true → n0 = 0) (hR0 : Row .i64 w a0 n0 f) (hz : a.isNone = true → n = 0) (hL : ListsN w a n D F) :
    Calls Try.prog 6 #[.slice a0 n0 c0, .slice a n c] w (LawPost w) := by
  have H : Hid ((a0.isNone = true → n0 = 0) ∧ Row .i64 w a0 n0 f ∧ (a.isNone = true → n = 0) ∧ ListsN w a n D F) := ⟨hz0, hR0, hz, hL⟩
  clear hz0 hR0 hz hL
  have hnil := nil22
  have hbr : Below w.heap.size w w := Below.refl _ _
  go_enter Try.func6, Try.ntmps6
  go_wp2_with fail
  refine (zzBytes17 w a0 a n0 c0 n c D F H.out.2.2.2.lists).mono ?_
  rintro e w1 ⟨r, rfl, rfl, hr⟩
  cases r with
  | false =>
    clear hr
    go_wp2
    go_ret
    exact ⟨rfl, hbr⟩
  | true =>
    obtain ⟨h1, h2, h3⟩ := hr rfl
    have HD : Hid (∀ v, v < n → D v ≤ 1048576) := h3
    clear hr h3
    by_cases hb0 : 65536 < n0
    · have hbI : (65536 : Int) < (n0 : Int) := by omega
      go_wp2
      go_ret
      exact ⟨rfl, hbr⟩
    · by_cases hb : 65536 < n
      · have hbI : (65536 : Int) < (n : Int) := by omega
        go_wp2
        go_ret
        exact ⟨rfl, hbr⟩
      · go_wp2_with fail
        refine (fits_any w _ a n c D F (by omega) (by omega) (by omega) HD.out H.out.2.2.2.lists).mono ?_
        rintro e w1 ⟨r, rfl, rfl⟩
        cases r with
        | false =>
          go_wp2
          go_ret
          exact ⟨rfl, hbr⟩
        | true =>
          by_cases hne : n0 = n
          · subst hne
            have hneB : ((n0 : Int) != (n0 : Int)) = false := by simp
            go_wp2_with fail
            refine (range_any w a n0 c D F true (by omega) HD.out H.out.2.2.2.lists).mono ?_
            rintro e w1 ⟨r, rfl, hb1, hr⟩
            cases r with
            | false =>
              clear hr hbr
              go_wp2
              go_ret
              exact ⟨rfl, hb1⟩
            | true =>
              have HR : Hid (∀ v, v < n0 → InRange n0 D F true v (D v)) := hr rfl
              clear hr hbr
              have hn : n0 ≤ 65536 := by omega
              clear h1 h2 hb0 hb hneB
              go_wp2_with fail
              refine (cloneInts_any w1 a0 n0 c0 f (by omega) H.out.1 (H.out.2.1.below hb1)).mono ?_
              rintro e w2 ⟨a2, c2, rfl, _, _, hr2, hb2⟩
              have HT2 : Hid (Row .i64 w2 a2 n0 f) := hr2
              clear hr2
              go_wp2_with fail
              refine (cloneLists_any w2 a n0 c D F hn H.out.2.2.1 HD.out (H.out.2.2.2.below (bthen hb1 hb2))).mono ?_
              rintro e w3 ⟨a3, c3, rfl, hl3, hb3⟩
              have HG : Hid (Small (graphOf n0 D F) ∧ InMem w3 a3 (graphOf n0 D F) ∧ Row .i64 w3 a2 n0 f ∧ Asc (graphOf n0 D F)) := ⟨graphOf_small hn HD.out HR.out, hl3.inMem HR.out, HT2.out.below hb3, graphOf_asc HR.out⟩
              have hbw : Below w.heap.size w w3 := bthen (bthen hb1 hb2) hb3
              clear hl3 HT2 hb1 hb2 hb3 HR HD H
              generalize hGG : graphOf n0 D F = G at *
              have hGn : G.n = n0 := by rw [← hGG]; rfl
              clear hGG
              subst hGn
              go_wp2_with fail
              refine (zzCycle_any G w3 a2 a3 c2 c3 f HG.out.1 HG.out.2.2.1 HG.out.2.1).mono ?_
              rintro e w4 ⟨hb4, h⟩
              have hbw4 : Below w.heap.size w w4 := bthen hbw hb4
              have HM : Hid (Small G ∧ InMem w4 a3 G ∧ Row .i64 w4 a2 G.n f ∧ Asc G) := ⟨HG.out.1, Lists.below HG.out.2.1 hb4, HG.out.2.2.1.below hb4, HG.out.2.2.2⟩
              clear hbw
              rcases h with ⟨rfl, h⟩ | ⟨g, c, start, l, rfl, hc, ho⟩
              · clear hb4 HG
                have HN : Hid (∀ v, v < G.n → ¬ Multi G v) := h
                clear h
                go_wp2_with fail
                refine (node_any G w4 a3 c3 HM.out.1 HM.out.2.1).mono ?_
                rintro e w5 ⟨hb5, h⟩
                rcases h with ⟨rfl, _⟩ | ⟨v, rfl, hv, hm, _⟩
                · have HB : Hid (Below w.heap.size w w5) := bthen hbw4 hb5
                  clear hbw4 hb5 HM HN
                  go_wp2
                  go_ret
                  exact ⟨rfl, HB.out⟩
                · exact absurd hm (HN.out v hv)
              · have HC : Hid (Cyc G start l ∧ w4.ownsRow w3.heap.size 3 1 (.slice (some ⟨g, 0, none⟩) (l.length + 1) c) (l.length + 1) (vals f (start :: l))) := ⟨hc, ho⟩
                clear hc ho hb4 HG
                go_wp2_with fail
                refine (node_any G w4 a3 c3 HM.out.1 HM.out.2.1).mono ?_
                rintro e w5 ⟨hb5, h⟩
                rcases h with ⟨rfl, hno⟩ | ⟨s, rfl, hs, hm, hlst⟩
                · exact absurd HC.out.1.multi (hno _ HC.out.1.lt)
                · have HS : Hid (Multi G s ∧ ∀ u, u < s → ¬ Multi G u) := ⟨hm, hlst⟩
                  have hsB : decide ((s : Int) < 0) = false := by simp
                  clear hm hlst
                  go_wp2_with fail
                  refine (least_any G w5 a3 c3 s HM.out.1 (Lists.below HM.out.2.1 hb5) hs HS.out.1).mono ?_
                  rintro e w6 ⟨P, g2, c2', rfl, hcl, hmin, hseq, hPl, hb6⟩
                  obtain ⟨rfl, rfl⟩ := cyc_same HM.out.2.2.2 HC.out.1 HS.out.1 HS.out.2 hcl hmin
                  have HB : Hid (Below w.heap.size w w6 ∧ Both G.n w6 a2 g g2 (P.length + 1) f (s :: P)) := by
                    have h46 := bthen hb5 hb6
                    have ho6 := owns_of_block (w' := w6) HC.out.2 (fun k hk => h46.block k (HC.out.2.lt k hk).2)
                    refine ⟨bthen hbw4 h46, rfl, ?_, HM.out.2.2.1.below h46, ?_, ?_, (ho6.lt g rfl).2, (hseq.lt g2 rfl).2⟩
                    · obtain ⟨v, hp, _⟩ := hcl
                      intro x hx
                      rcases List.mem_cons.1 hx with rfl | hx
                      · exact hs
                      · exact path_lt HM.out.1.ok hs hp x hx
                    · intro t x hx
                      refine cell_owned ho6 ?_
                      show ((s :: P).map _)[t]? = _
                      rw [List.getElem?_map, hx]; rfl
                    · intro t x hx
                      refine cell_owned hseq ?_
                      show ((s :: P).map _)[t]? = _
                      rw [List.getElem?_map, hx]; rfl
                  have hn := HM.out.1.n
                  clear hcl hmin hseq hb6 hb5 HC HM HS hbw4 hsB hs
                  generalize G.n = n at *
                  generalize hmm : P.length + 1 = m at *
                  have hneB : ((m : Int) != (m : Int)) = false := by simp
                  go_wp2
                  go_loopg [8] m (fun k v8 wr => ∃ t, t ≤ m ∧ m - t = k ∧ v8 = .int .i64 t ∧ Hid (Below w.heap.size w wr ∧ Both n wr a2 g g2 m f (s :: P)))
                  case atStart => exact ⟨0, by omega, rfl, rfl, HB⟩
                  case round =>
                    clear HB
                    obtain ⟨t, ht, rfl, rfl, hR⟩ := hrel
                    by_cases hlt : t < m
                    · obtain ⟨x, hx⟩ : ∃ x, (s :: P)[t]? = some x := by
                        have : t < (s :: P).length := by rw [hR.out.2.len]; exact hlt
                        exact ⟨_, List.getElem?_eq_getElem this⟩
                      have hxn := hR.out.2.lt x (List.mem_of_getElem? hx)
                      have m1 := hR.out.2.out t x hx
                      have m2 := hR.out.2.seq t x hx
                      obtain ⟨b, o, hab, _, m3⟩ := hR.out.2.row x hxn
                      subst hab
                      clear hx
                      generalize f x = fx at *
                      have hfB : (fx != fx) = false := by simp
                      go_wp2
                      go_quiet (fail)
                      go_wp2
                      go_roundg (m - (t + 1))
                      case measure => omega
                      case rel =>
                        go_light
                        exact ⟨t + 1, by omega, rfl, by go_num, below_drewN hR.out.1 _, hR.out.2.below (below_drewN (Below.refl _ _) _)⟩
                    · have e : m = t := by omega
                      subst e
                      go_wp2
                      go_ret
                      exact ⟨rfl, hR.out.1⟩
          · have hneB : ((n0 : Int) != (n : Int)) = true := by simp; omega
            go_wp2
            go_ret
            exact ⟨rfl, hbr⟩
end Go.Proofs.Qxb6601860a
