/-
  The argument 'outputs', opened: where its outputs lie.
-/
import Derived.Test.Qxb6634862aBase
import Derived.ProofKit
import Derived.OpenShut
import Derived.ShutString
import Derived.ChangeOld
import Derived.Below
import Derived.Deep.SlicePairs
namespace Go.Proofs.Qxb6634862a
open Go.ChangeShapes Go.WideShapes Go.ChangeAt Go.RowKit

theorem cells27 : Try.prog.cellsOf 27 = 2 := by kernel_rfl
theorem cells23 : Try.prog.cellsOf 23 = 1 := by kernel_rfl
theorem cells25 : Try.prog.cellsOf 25 = 1 := by kernel_rfl
theorem cells5 : Try.prog.cellsOf 5 = 1 := by kernel_rfl

theorem nth_map (f : Nat → Ot) (n i : Nat) (h : i < n) : nth ((List.range n).map f) i = f i := by
  simp [nth, List.getD, h]

theorem open_outs {H : Type} {enc : TypeId × Value → H} {W : World} {a : Option Addr} {len cap : Nat} {d : DataW H} {p : List MemPlace}
    (h : DataW.Trod enc Try.prog W 0 (fun _ => true) true 22 (.slice a len cap) d p) :
    ∃ L : List Ot, L.length = len ∧ Row 9223372036854775807 W a L ∧ len ≤ 9223372036854775807 ∧ (a = none → cap = 0) := by
  obtain ⟨fuel, hf⟩ := h
  rcases Go.Deep.open_slice_pairs Try.underlying22 Try.underlying27 cells27 rfl rfl cells23 cells25 hf with ⟨hcs, _⟩ | ⟨x, l, c, m, n, V0, V1, D0, D1, P0, P1, hcs, _, hl, hm, hmm, _, hx⟩
  · simp [Value.cells] at hcs
    obtain ⟨rfl, rfl, rfl⟩ := hcs
    exact ⟨[], rfl, ⟨fun i hi => absurd hi (Nat.not_lt_zero _), Or.inl rfl⟩, by omega, fun _ => rfl⟩
  · simp [Value.cells] at hcs
    obtain ⟨rfl, rfl, rfl⟩ := hcs
    simp only [if_true] at hmm
    subst hmm
    unfold maxLen at hm
    have each : ∀ i, i < len → ∃ o : Ot, W.cell? (x.add (i * 2)) = some (.int .u64 o.h) ∧ W.cell? (x.add (i * 2 + 1)) = some (.slice o.a o.l o.c) ∧ o.ok 9223372036854775807 W := by
      intro i hi
      obtain ⟨h1, h2, h3, h4⟩ := hx i (by omega)
      obtain ⟨k, e0, _, wk⟩ := DataW.trod_int Try.underlying23 h3
      simp at e0
      have bk := bounds_u64 wk
      rcases open_ints Try.underlying25 Try.underlying5 cells5 h4 with ⟨e1, _⟩ | ⟨y, l', c', zs, e1, _, hl', hm', hz, _, hcell, _⟩
      · simp at e1
        exact ⟨⟨k, none, 0, 0, fun _ => 0⟩, by rw [h1, e0], by rw [h2, e1], bk.1, bk.2, by simp, Or.inl rfl⟩
      · simp at e1
        simp only [if_true] at hz
        unfold maxLen at hm'
        refine ⟨⟨k, some y, l', c', fun j => zs.getD j 0⟩, by rw [h1, e0], by rw [h2, e1], bk.1, bk.2, by simp only; omega, ?_⟩
        by_cases h0 : l' = 0
        · exact Or.inl h0
        · obtain ⟨b, off, rfl, hc⟩ := ints_at hcell (by omega)
          exact Or.inr ⟨b, off, rfl, World.block_lt_of_cell? _ _ (hc 0 (by omega)), fun j (hj : j < l') => hc j (by omega)⟩
    obtain ⟨f, hfo⟩ := @Go.Deep.choose_lt Ot ⟨⟨0, none, 0, 0, fun _ => 0⟩⟩ len _ each
    refine ⟨(List.range len).map f, by simp, ⟨fun i hi => ?_, ?_⟩, by omega, fun e => by simp at e⟩
    · have hi' : i < len := by simpa using hi
      rw [nth_map f len i hi']
      exact (hfo i hi').2.2
    · by_cases h0 : len = 0
      · exact Or.inl (by simpa using h0)
      · obtain ⟨b, off, spot⟩ := x
        have hspot : spot = none := by simpa [Addr.add] using World.cell?_spot (hfo 0 (by omega)).1
        subst hspot
        refine Or.inr ⟨b, off, rfl, by simpa [Addr.add] using World.block_lt_of_cell? _ _ (hfo 0 (by omega)).1, fun i hi => ?_⟩
        have hi' : i < len := by simpa using hi
        rw [nth_map f len i hi']
        have := hfo i hi'
        rw [add_plain, add_plain] at this
        exact ⟨this.1, this.2.1⟩

end Go.Proofs.Qxb6634862a
