/-
  toAnchor and Counted: the two functions that make memory.
-/
import Derived.Test.Qxb6634862aBase
namespace Go.Proofs.Qxb6634862a
open Go.RowKit

theorem info32 : (Try.prog.info? 32).map (fun i => (i.zero, i.size, i.bytes)) = some (some (.agg #[.int .u64 0, .slice none 0 0]), 2, 32) := by kernel_rfl

/-- A new row of n elements, the first k of which hold L's. -/
structure Half (L : List Ot) (B n k : Nat) (w : World) : Prop where
  s : ∀ j, j < n * 2 → w.frozen? ⟨B, j, none⟩ = false ∧ ∃ v, w.cell? ⟨B, j, none⟩ = some v
  d : ∀ i, i < k → w.cell? ⟨B, i * 2, none⟩ = some (.int .u64 (nth L i).h) ∧ w.cell? ⟨B, i * 2 + 1, none⟩ = some (.slice (nth L i).a (nth L i).l (nth L i).c)

theorem Half.step {L : List Ot} {B n k : Nat} {w : World} (h : Half L B n k w) (hk : k < n) :
    Half L B n (k + 1) (((w.setCell ⟨B, k * 2, none⟩ (.int .u64 (nth L k).h)).setCell ⟨B, k * 2 + 1, none⟩ (.slice (nth L k).a (nth L k).l (nth L k).c)).drew) := by
  obtain ⟨_, v1, g1⟩ := h.s (k * 2) (by omega)
  obtain ⟨_, v2, g2⟩ := h.s (k * 2 + 1) (by omega)
  refine ⟨fun j hj => ⟨?_, ?_⟩, fun i hi => ?_⟩
  · show ((w.setCell _ _).setCell _ _).frozen? _ = false
    rw [World.frozen?_setCell, World.frozen?_setCell]
    exact (h.s j hj).1
  · show ∃ v, ((w.setCell _ _).setCell _ _).cell? _ = some v
    obtain ⟨_, u, hu⟩ := h.s j hj
    obtain ⟨u1, hu1⟩ := cell?_setCell_some (p := ⟨B, k * 2, none⟩) (x := .int .u64 (nth L k).h) hu
    exact cell?_setCell_some hu1
  · show ((w.setCell _ _).setCell _ _).cell? _ = _ ∧ ((w.setCell _ _).setCell _ _).cell? _ = _
    rcases Nat.lt_succ_iff_lt_or_eq.1 hi with h1 | rfl
    · have hd := h.d i h1
      constructor
      · rw [World.cell?_setCell_other _ _ _ _ (by simp), World.cell?_setCell_other _ _ _ _ (by simp)]; exact hd.1
      · rw [World.cell?_setCell_other _ _ _ _ (by simp), World.cell?_setCell_other _ _ _ _ (by simp)]; exact hd.2
    · constructor
      · rw [World.cell?_setCell_other _ _ _ _ (by simp), World.cell?_setCell_same _ _ _ g1]
      · exact World.cell?_setCell_same _ _ _ (u := v2) (by rw [World.cell?_setCell_other _ _ _ _ (by simp)]; exact g2)

set_option maxHeartbeats 400000 in
theorem toAnchor_some (b off n c : Nat) (L : List Ot) (w : World) (hn : n ≤ 65536) (hb0 : b < w.heap.size)
    (hc : ∀ i, i < n → w.cell? ⟨b, off + i * 2, none⟩ = some (.int .u64 (nth L i).h) ∧ w.cell? ⟨b, off + i * 2 + 1, none⟩ = some (.slice (nth L i).a (nth L i).l (nth L i).c)) :
    Calls Try.prog 6 #[.slice (some ⟨b, off, none⟩) n c] w fun e w' => e = .returned (.slice (some ⟨w.heap.size, 0, none⟩) n n) ∧ Half L w.heap.size n n w' ∧ Below w.heap.size w w' := by
  obtain ⟨i0, hi, hz0, hz1, hz2⟩ := info_parts info32
  have hnil := fun wx => Lib.run_eql_slice_nil (P := Try.prog) wx 22 27 (some ⟨b, off, none⟩) n c 0 0 Try.underlying22
  go_enter Try.func6, Try.ntmps6
  go_wp2_with (at_make; refine wpList_make_full _ rfl _ _ 28 rfl w.heap.size 32 i0 _ 2 Try.underlying28 hi hz0 hz1 .i64 .i64 n n n rfl rfl rfl rfl (by rw [hz2]; omega) (by unfold maxLen; omega) (Nat.le_refl _) ?_; intro w1 hown hgrow)
  have hB : Below w.heap.size w w1 := (Below.refl _ _).grown hgrow (Nat.le_refl _) (by simp)
  have hml : (madeCells (Value.agg #[.int .u64 0, .slice none 0 0]).cells (n * 2)).toList.length = n * 2 := hown.1
  have hS : ∀ j, j < n * 2 → w1.frozen? ⟨w.heap.size, j, none⟩ = false ∧ ∃ v, w1.cell? ⟨w.heap.size, j, none⟩ = some v := by
    intro j hj
    refine ⟨hown.frozenAt j, ?_⟩
    rw [hown.cellAt j hj]
    exact ⟨_, List.getElem?_eq_getElem (by rw [hml]; exact hj)⟩
  clear hown hgrow hml hnil hi hz0 hz1 hz2
  go_loopw [4] (fun i wr => ∃ k : Nat, k ≤ n ∧ i = .int .i64 k ∧ Half L w.heap.size n k wr ∧ Below w.heap.size w wr) (fun i _ => n - (intOf i).toNat)
  case atStart => exact ⟨0, Nat.zero_le _, rfl, ⟨hS, fun j hj => absurd hj (Nat.not_lt_zero _)⟩, hB⟩
  case round =>
    obtain ⟨k, hk, rfl, hH, hb⟩ := hrel
    clear hB hS
    by_cases hlt : k < n
    · have c1 := (hb.cell (p := ⟨b, off + k * 2, none⟩) (by exact hb0)).trans (hc k hlt).1
      have c2 := (hb.cell (p := ⟨b, off + k * 2 + 1, none⟩) (by exact hb0)).trans (hc k hlt).2
      obtain ⟨f1, v1, g1⟩ := hH.s (k * 2) (by omega)
      obtain ⟨f2, v2, g2⟩ := hH.s (k * 2 + 1) (by omega)
      go_wp2
      go_region
      go_wp2
      go_roundw
      case rel => exact ⟨k + 1, by omega, by go_num, hH.step hlt, ((hb.setCell (Nat.le_refl _) _).setCell (Nat.le_refl _) _).drew⟩
      case measure => simp [intOf]; omega
    · go_wp2
      go_ret
      obtain rfl : k = n := by omega
      exact ⟨rfl, hH, hb⟩

set_option maxHeartbeats 400000 in
theorem toAnchor_none (w : World) :
    Calls Try.prog 6 #[.slice none 0 0] w fun e w' => e = .returned (.slice none 0 0) ∧ w' = w := by
  have hnil := fun wx => Lib.run_eql_slice_nil (P := Try.prog) wx 22 27 none 0 0 0 0 Try.underlying22
  go_enter Try.func6, Try.ntmps6
  go_wp2
  go_ret
  exact ⟨rfl, rfl⟩

set_option maxHeartbeats 400000 in
theorem toAnchor_empty (x : Addr) (c : Nat) (w : World) :
    Calls Try.prog 6 #[.slice (some x) 0 c] w fun e w' => e = .returned (.slice (some ⟨w.heap.size, 0, none⟩) 0 0) ∧ Below w.heap.size w w' := by
  obtain ⟨i0, hi, hz0, hz1, hz2⟩ := info_parts info32
  have hnil := fun wx => Lib.run_eql_slice_nil (P := Try.prog) wx 22 27 (some x) 0 c 0 0 Try.underlying22
  go_enter Try.func6, Try.ntmps6
  go_wp2_with (at_make; refine wpList_make_full _ rfl _ _ 28 rfl w.heap.size 32 i0 _ 2 Try.underlying28 hi hz0 hz1 .i64 .i64 0 0 0 rfl rfl rfl rfl (by rw [hz2]; omega) (by unfold maxLen; omega) (Nat.le_refl _) ?_; intro w1 hown hgrow)
  have hB : Below w.heap.size w w1 := (Below.refl _ _).grown hgrow (Nat.le_refl _) (by simp)
  refine wp_loop_rounds 1 ?_
  rw [rounds_succ]
  go_wp2
  go_ret
  exact ⟨rfl, hB⟩

theorem toAnchor_any (M c : Nat) (a : Option Addr) (L : List Ot) (w : World) (h : Row M w a L) (hn : L.length ≤ 65536) (hc : a = none → c = 0) :
    Calls Try.prog 6 #[.slice a L.length c] w fun e w' => ∃ a', e = .returned (.slice a' L.length L.length) ∧ Row M w' a' L ∧ Below w.heap.size w w' := by
  have hok := h.ok
  rcases h.at_ with h0 | ⟨b, off, rfl, hb, hcell⟩
  · have hk : ∀ (w' : World) (a' : Option Addr), Row M w' a' L := fun _ _ => ⟨fun i hi => by omega, Or.inl h0⟩
    rw [h0]
    cases a with
    | none => rw [hc rfl]; exact (toAnchor_none w).mono fun e w' ⟨he, hw⟩ => ⟨_, he, hk _ _, hw ▸ Below.refl _ _⟩
    | some x => exact (toAnchor_empty x c w).mono fun e w' ⟨he, hw⟩ => ⟨_, he, hk _ _, hw⟩
  · refine (toAnchor_some b off L.length c L w hn hb hcell).mono fun e w' ⟨he, hH, hB⟩ => ⟨_, he, ⟨fun i hi => (hok i hi).below hB, ?_⟩, hB⟩
    by_cases h0 : L.length = 0
    · exact Or.inl h0
    · refine Or.inr ⟨w.heap.size, 0, rfl, ?_, fun i hi => by simpa using hH.d i hi⟩
      obtain ⟨_, v, hv⟩ := hH.s 0 (by omega)
      exact World.block_lt_of_cell? _ _ hv

end Go.Proofs.Qxb6634862a
