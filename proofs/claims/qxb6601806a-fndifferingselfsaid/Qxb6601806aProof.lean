import Derived.Test.Qxb6601806aRows
import Derived.Test.Qxb6601806aWg
import Derived.ProofKit
import Derived.OpenShut
import Derived.ShutString
import Derived.ChangeOld
import Derived.Deep.Strs
namespace Go.Proofs.Qxb6601806a
open Go.ChangeShapes Go.WideShapes Go.ChangeAt Go.RowKit

theorem own : ownKnob Try.prog.godebug = none := by kernel_rfl
theorem laidOut : laidOutB Try.prog = true := by kernel_rfl
theorem Try.cells76 : Try.prog.cellsOf 76 = 3 := by kernel_rfl
theorem Try.cells68 : Try.prog.cellsOf 68 = 1 := by kernel_rfl
theorem Try.cells30 : Try.prog.cellsOf 30 = 1 := by kernel_rfl
theorem Try.cells33 : Try.prog.cellsOf 33 = 1 := by kernel_rfl
theorem Try.cells5 : Try.prog.cellsOf 5 = 1 := by kernel_rfl

/-- A []byte in one cell. -/
theorem bytes_of {H : Type} {enc : TypeId × Value → H} {w : World} {spare : Nat → Bool} {fuel : Nat} {v : Value} {x : DataW H × List MemPlace}
    (h : DataW.trod enc Try.prog w 0 spare true fuel 33 [v] = some x) : ∃ a n c f, v = .slice a n c ∧ ByteRow w 0 (.slice a n c) n f := by
  rcases open_ints Try.underlying33 Try.underlying5 Try.cells5 h with ⟨hcs, _⟩ | ⟨a, len, cap, zs, hcs, _, hl, hm, hz, _, hcell, _⟩
  · simp at hcs
    exact ⟨none, 0, 0, fun _ => 0, hcs, .inl ⟨rfl, rfl⟩⟩
  · simp at hcs
    have hlz : len ≤ zs.length := by rw [hz]; split <;> omega
    obtain ⟨b, o, sp⟩ := a
    have hsp : 0 < len → sp = none := fun h => by simpa [Addr.add] using World.cell?_spot (hcell 0 (by omega))
    refine ⟨_, len, cap, fun i => zs.getD i 0, hcs, .inr ⟨b, o, sp, cap, rfl, hsp, Nat.zero_le _, fun i hi => ?_⟩⟩
    obtain rfl := hsp (by omega)
    rw [← add_plain]
    exact hcell i (by omega)

theorem isArg_of {H : Type} {enc : TypeId × Value → H} {w : World} {spare : Nat → Bool} {fuel : Nat} {a : Option Addr} {n c : Nat} {x : DataW H × List MemPlace}
    (h : DataW.trod enc Try.prog w 0 spare true fuel 41 [.slice a n c] = some x) : ∃ N, IsArg w a n c N := by
  rcases Deep.open_slice Try.underlying41 h with ⟨hcs, _⟩ | ⟨a', len, cap, m, k, D, Pl, hcs, _, hl, hm, hmm, _, hx⟩
  · simp at hcs
    exact ⟨fun _ => 0, .inl hcs⟩
  · simp at hcs
    obtain ⟨rfl, rfl, rfl⟩ := hcs
    have hlm : n ≤ m := by rw [hmm]; split <;> omega
    have each : ∀ i, i < n → ∃ q : Int × Int × Option Addr × Nat × Nat × (Nat → Int), w.cell? (a'.add (i * 3)) = some (.int .u16 q.1) ∧ w.cell? (a'.add (i * 3 + 1)) = some (.int .u32 q.2.1) ∧
        w.cell? (a'.add (i * 3 + 2)) = some (.slice q.2.2.1 q.2.2.2.1 q.2.2.2.2.1) ∧ ByteRow w 0 (.slice q.2.2.1 q.2.2.2.1 q.2.2.2.2.1) q.2.2.2.1 q.2.2.2.2.2 := by
      intro i hi
      obtain ⟨cs', h1, h2⟩ := hx i (by omega)
      rw [Try.cells76] at h1
      obtain ⟨_, hlen, hcell⟩ := World.cells?_some h1
      obtain ⟨y0, y1, y2, k', _, _, g0, g1, g2⟩ := Deep.trod_struct3 Try.underlying76 h2
      match cs', hlen with
      | [v0, v1, v2], _ =>
        simp [Try.cells68, Try.cells30, Try.cells33] at g0 g1 g2
        obtain ⟨x0, e0, _, _⟩ := DataW.trod_int Try.underlying68 g0
        obtain ⟨x1, e1, _, _⟩ := DataW.trod_int Try.underlying30 g1
        obtain ⟨sa, sn, sc, f, e2, hb⟩ := bytes_of g2
        simp at e0 e1
        subst e0 e1 e2
        have q0 := hcell 0 (by omega)
        have q1 := hcell 1 (by omega)
        have q2 := hcell 2 (by omega)
        rw [Deep.add_add] at q0 q1 q2
        exact ⟨(x0, x1, sa, sn, sc, f), by simpa using q0, by simpa using q1, by simpa using q2, hb⟩
    obtain ⟨q, hq⟩ := Deep.choose_lt each
    obtain ⟨b, o, sp⟩ := a'
    have hsp : 0 < n → sp = none := fun h => by simpa [Addr.add] using World.cell?_spot (hq 0 h).1
    refine ⟨fun i => (q i).2.2.2.1, .inr ⟨b, o, sp, fun i => (q i).1, fun i => (q i).2.1, fun i => (q i).2.2.2.2.2, rfl, hsp, fun i hi => ?_⟩⟩
    obtain rfl := hsp (by omega)
    obtain ⟨h0, h1, h2, h3⟩ := hq i hi
    rw [add_plain] at h0 h1 h2
    exact ⟨h0, h1, _, _, h2, h3⟩

set_option maxRecDepth 100000 in
theorem lifted (os : Os) (started : os.Started) (H : Type) (enc : TypeId × Value → H) :
    ReturnsInHanded {} Try.checked os 6 .any (Rows.fnDifferingSelfSpec.pre6 enc Try.prog Try.f6 Rows.fnDifferingSelfRow.domain false) (Rows.fnDifferingSelfSpec.post enc Try.prog Try.f6 false true false false) := by
  refine returnsInHanded_of_change (C := Try.checked) own started (by kernel_rfl) Try.func6
    (ChangeSpec.witness6 (enc := enc) (C := Try.checked) false ⟨#[], #[.slice none 0 0], []⟩ 8 (by kernel_rfl) (by kernel_rfl) (by kernel_rfl) (by kernel_rfl)) ?_
  intro W base args ds gs before hval0 hW hcnd _
  have hval : ∀ (j : Nat) t v, Try.f6.params[j]? = some t → args[j]? = some v → Value.okWide Try.prog W .any base t v := hval0
  have hW' := hW
  obtain ⟨p, q, hA0, hV, rfl, hfz, hnd⟩ := hW
  have hA : DataW.TrodAll enc Try.prog W 0 (fun _ => true) true Try.f6.params.toList args.toList ds p := hA0
  rw [Try.params6] at hA hval
  obtain ⟨v0, vs0, d0, ds0, p0, q0, hargs, rfl, rfl, h0, r0⟩ := trodAll_cons hA
  obtain ⟨rfl, rfl, rfl⟩ := trodAll_nil r0
  obtain rfl : args = #[v0] := by cases args; simp_all
  obtain ⟨rfl, rfl⟩ := trodVars_none hV
  obtain ⟨a0, len0, cap0, rfl⟩ := okWide_slice Try.underlying41 (hval 0 41 v0 rfl rfl)
  have k0 := h0
  have lt0 : ∀ x ∈ p0, x.block < W.heap.size := by obtain ⟨m, hm⟩ := k0; exact DataW.trod_lt m _ _ _ hm
  obtain ⟨N, w0⟩ : ∃ N, IsArg W a0 len0 cap0 N := by
    obtain ⟨fuel, hf⟩ := h0
    exact isArg_of (by simpa [Value.cells] using hf)
  clear hA0 hval0
  refine (law_walk W a0 len0 cap0 N w0).mono fun e W' ⟨he, bel⟩ => ?_
  subst he
  exact ⟨_, rfl, _, _, _, [], _, [], hW', trodAll_mk1 (shut_bool Try.underlying4 _), trodAll_cons_mk (Below.trod laidOut (by kernel_rfl) (of_decide_eq_true (by kernel_rfl)) k0 bel lt0) trodAll_mk0, rfl, bel.frame _, fun h => by cases h⟩

theorem differingSelf : Rows.FnDifferingSelfSaid :=
  OpenClaim.holds_of_wide 6 Try.f6 rfl rfl rfl rfl rfl rfl rfl ⟨rfl, rfl, rfl, rfl, rfl⟩ rfl rfl rfl rfl rfl (by kernel_rfl) Try.func6 (by kernel_rfl)
    (of_decide_eq_true (by kernel_rfl)) (by unfold Func.isWrapper; first | (rw [if_pos (by decide +kernel)]; kernel_rfl) | (rw [if_neg (by decide +kernel)]; exact ⟨rfl, rfl⟩))
    (fun os started H enc _ => lifted os started H enc)

#print axioms differingSelf
end Go.Proofs.Qxb6601806a
