/-
  The walk of ZZnewLabel.
-/
import Derived.Test.Qxb6627996aDoorDec
namespace Go.Proofs.Qxb6627996aDoor
open Go.RowKit

theorem _root_.Go.RowKit.Below.step {w w1 w2 : World} (h : Below w.heap.size w w1) (k : Below w1.heap.size w1 w2) : Below w.heap.size w w2 := h.trans (k.mono h.size)

theorem info36 : (Tryd.prog.info? 36).map (fun i => (i.zero, i.size, i.bytes)) = some (some (.agg #[.int .i64 0, .int .u64 0]), 2, 16) := by kernel_rfl

/-- A row of n parts, two cells each. -/
def PR (w : World) (a : Option Addr) (n : Nat) (R C : Nat → Int) : Prop :=
  n = 0 ∨ ∃ b off, a = some ⟨b, off, none⟩ ∧ b < w.heap.size ∧ ∀ i, i < n → w.cell? ⟨b, off + i * 2, none⟩ = some (.int .i64 (R i)) ∧ w.cell? ⟨b, off + i * 2 + 1, none⟩ = some (.int .u64 (C i))

/-- A new row of n parts, the first k of which are laid. -/
structure Half (R C : Nat → Int) (B n k : Nat) (w : World) : Prop where
  s : ∀ j, j < n * 2 → w.frozen? ⟨B, j, none⟩ = false ∧ ∃ v, w.cell? ⟨B, j, none⟩ = some v
  d : ∀ i, i < k → w.cell? ⟨B, i * 2, none⟩ = some (.int .i64 (R i)) ∧ w.cell? ⟨B, i * 2 + 1, none⟩ = some (.int .u64 (C i))

theorem Half.step {R C : Nat → Int} {B n k : Nat} {w : World} (h : Half R C B n k w) (hk : k < n) :
    Half R C B n (k + 1) (((w.setCell ⟨B, k * 2, none⟩ (.int .i64 (R k))).setCell ⟨B, k * 2 + 1, none⟩ (.int .u64 (C k))).drew) := by
  obtain ⟨_, v1, g1⟩ := h.s (k * 2) (by omega)
  obtain ⟨_, v2, g2⟩ := h.s (k * 2 + 1) (by omega)
  refine ⟨fun j hj => ⟨?_, ?_⟩, fun i hi => ?_⟩
  · show ((w.setCell _ _).setCell _ _).frozen? _ = false
    rw [World.frozen?_setCell, World.frozen?_setCell]
    exact (h.s j hj).1
  · show ∃ v, ((w.setCell _ _).setCell _ _).cell? _ = some v
    obtain ⟨_, u, hu⟩ := h.s j hj
    obtain ⟨u1, hu1⟩ := cell?_setCell_some (p := ⟨B, k * 2, none⟩) (x := .int .i64 (R k)) hu
    exact cell?_setCell_some hu1
  · show ((w.setCell _ _).setCell _ _).cell? _ = _ ∧ ((w.setCell _ _).setCell _ _).cell? _ = _
    rcases Nat.lt_succ_iff_lt_or_eq.1 hi with h1 | rfl
    · have hd := h.d i h1
      constructor
      · rw [World.cell?_setCell_other _ _ _ _ (by simp), World.cell?_setCell_other _ _ _ _ (by simp)]; exact hd.1
      · rw [World.cell?_setCell_other _ _ _ _ (by simp), World.cell?_setCell_other _ _ _ _ (by simp)]; exact hd.2
    · constructor
      · rw [World.cell?_setCell_other _ _ _ _ (by simp), World.cell?_setCell_same _ _ _ g1]
      · exact World.cell?_setCell_same _ _ _ (u := v2) (by rw [World.cell?_setCell_other _ _ _ _ (by simp)]; exact g2)

theorem half_start {w1 : World} {base n cap : Nat} {B : Nat} {xs : List Value} (R C : Nat → Int) (hown : w1.ownsRow base 36 2 (.slice (some ⟨B, 0, none⟩) n cap) n xs) : Half R C B n 0 w1 := by
  refine ⟨fun j hj => ⟨hown.frozenAt j, ?_⟩, fun i hi => absurd hi (Nat.not_lt_zero _)⟩
  rw [hown.cellAt j hj]
  exact ⟨_, List.getElem?_eq_getElem (by rw [hown.1]; exact hj)⟩

set_option maxHeartbeats 400000 in
theorem make_some (b off b' off' n c c' : Nat) (R C : Nat → Int) (w : World) (hn : n ≤ 65536) (hb0 : b < w.heap.size) (hb1 : b' < w.heap.size)
    (hR : ∀ i, i < n → w.cell? ⟨b, off + i, none⟩ = some (.int .i64 (R i))) (hC : ∀ i, i < n → w.cell? ⟨b', off' + i, none⟩ = some (.int .u64 (C i))) :
    Calls Tryd.prog 6 #[.slice (some ⟨b, off, none⟩) n c, .slice (some ⟨b', off', none⟩) n c'] w fun e w' =>
      e = .returned (.agg #[.slice (some ⟨w.heap.size + 1, 0, none⟩) n n]) ∧ (∀ i, i < n → w'.cell? ⟨w.heap.size + 1, i * 2, none⟩ = some (.int .i64 (R i)) ∧ w'.cell? ⟨w.heap.size + 1, i * 2 + 1, none⟩ = some (.int .u64 (C i))) ∧ Below w.heap.size w w' := by
  obtain ⟨i0, hi, hz0, hz1, hz2⟩ := info_parts info36
  go_enter Tryd.func6, Tryd.ntmps6
  go_wp2_with (at_make; refine wpList_make_full _ rfl _ _ 26 rfl (w.heap.size + 1) 36 i0 _ 2 Tryd.underlying26 hi hz0 hz1 .i64 .i64 n n n rfl rfl rfl rfl (by rw [hz2]; omega) (by unfold maxLen; omega) (by simp) ?_; intro w1 hown hgrow)
  have hS : Half R C (w.heap.size + 1) n 0 w1 := by have := half_start R C hown; simpa using this
  have hA : Below (w.heap.size + 1) (w.alloc (.cells #[.slice none 0 0] 28)) w1 := (Below.refl _ _).grown hgrow (by simp) (by simp)
  have B0 : Below w.heap.size w w1 := ((Below.refl _ _).alloc (Nat.le_refl _) _).trans (hA.mono (by omega))
  have cL : w1.cell? ⟨w.heap.size, 0, none⟩ = some (.slice none 0 0) := by rw [hA.cell (by simp)]; simp
  have fL : w1.frozen? ⟨w.heap.size, 0, none⟩ = false := by rw [hA.frozen (by simp)]; simp
  clear hown hgrow hi hz0 hz1 hz2 hA
  go_loopw [6] (fun i wr => ∃ k : Nat, k ≤ n ∧ i = .int .i64 k ∧ Half R C (w.heap.size + 1) n k wr ∧ Below (w.heap.size + 1) w1 wr) (fun i _ => n - (intOf i).toNat)
  case atStart => exact ⟨0, Nat.zero_le _, rfl, hS, Below.refl _ _⟩
  case round =>
    obtain ⟨k, hk, rfl, hH, hb⟩ := hrel
    clear hS
    by_cases hlt : k < n
    · have c1 := (hb.cell (p := ⟨b, off + k, none⟩) (by show b < _; omega)).trans ((B0.cell (p := ⟨b, off + k, none⟩) (by exact hb0)).trans (hR k hlt))
      have c2 := (hb.cell (p := ⟨b', off' + k, none⟩) (by show b' < _; omega)).trans ((B0.cell (p := ⟨b', off' + k, none⟩) (by exact hb1)).trans (hC k hlt))
      obtain ⟨f1, v1, g1⟩ := hH.s (k * 2) (by omega)
      obtain ⟨f2, v2, g2⟩ := hH.s (k * 2 + 1) (by omega)
      clear cL fL
      go_wp2
      go_region
      go_wp2
      go_roundw
      case rel => exact ⟨k + 1, by omega, by go_num, hH.step hlt, ((hb.setCell (Nat.le_refl _) _).setCell (Nat.le_refl _) _).drew⟩
      case measure => simp [intOf]; omega
    · obtain rfl : k = n := by omega
      have cL' := (hb.cell (p := ⟨w.heap.size, 0, none⟩) (by show w.heap.size < _; omega)).trans cL
      have fL' := (hb.frozen (p := ⟨w.heap.size, 0, none⟩) (by show w.heap.size < _; omega)).trans fL
      clear cL fL
      go_wp2
      refine bodyPost_ret (v := .agg #[.slice (some ⟨w.heap.size + 1, 0, none⟩) k k]) (by simp [results, Tryd.results6, go_sem, cL']) rfl ⟨rfl, fun i hi => ?_, ?_⟩
      · rw [World.cell?_setCell_other _ _ _ _ (by simp), World.cell?_setCell_other _ _ _ _ (by simp)]
        exact hH.d i hi
      · exact (B0.trans (hb.mono (by omega))).setCell (Nat.le_refl _) _

set_option maxHeartbeats 400000 in
theorem make_none (a a' : Option Addr) (c n' c' : Nat) (w : World) :
    Calls Tryd.prog 6 #[.slice a 0 c, .slice a' n' c'] w fun e w' => e = .returned (.agg #[.slice (some ⟨w.heap.size + 1, 0, none⟩) 0 0]) ∧ Below w.heap.size w w' := by
  obtain ⟨i0, hi, hz0, hz1, hz2⟩ := info_parts info36
  go_enter Tryd.func6, Tryd.ntmps6
  go_wp2_with (at_make; refine wpList_make_full _ rfl _ _ 26 rfl (w.heap.size + 1) 36 i0 _ 2 Tryd.underlying26 hi hz0 hz1 .i64 .i64 0 0 0 rfl rfl rfl rfl (by rw [hz2]; omega) (by unfold maxLen; omega) (by simp) ?_; intro w1 hown hgrow)
  have hA : Below (w.heap.size + 1) (w.alloc (.cells #[.slice none 0 0] 28)) w1 := (Below.refl _ _).grown hgrow (by simp) (by simp)
  have B0 : Below w.heap.size w w1 := ((Below.refl _ _).alloc (Nat.le_refl _) _).trans (hA.mono (by omega))
  have cL : w1.cell? ⟨w.heap.size, 0, none⟩ = some (.slice none 0 0) := by rw [hA.cell (by simp)]; simp
  have fL : w1.frozen? ⟨w.heap.size, 0, none⟩ = false := by rw [hA.frozen (by simp)]; simp
  clear hown hgrow hi hz0 hz1 hz2 hA
  refine wp_loop_rounds 1 ?_
  rw [rounds_succ]
  go_wp2
  exact bodyPost_ret (v := .agg #[.slice (some ⟨w.heap.size + 1, 0, none⟩) 0 0]) (by simp [results, Tryd.results6, go_sem, cL]) rfl ⟨rfl, B0.setCell (Nat.le_refl _) _⟩

theorem make_any (n c c' : Nat) (a a' : Option Addr) (R C : Nat → Int) (w : World) (hn : n ≤ 65536) (hR : NR .i64 w a n R) (hC : NR .u64 w a' n C) :
    Calls Tryd.prog 6 #[.slice a n c, .slice a' n c'] w fun e w' => e = .returned (.agg #[.slice (some ⟨w.heap.size + 1, 0, none⟩) n n]) ∧ PR w' (some ⟨w.heap.size + 1, 0, none⟩) n R C ∧ Below w.heap.size w w' := by
  by_cases h0 : n = 0
  · subst h0
    exact (make_none a a' c 0 c' w).mono fun e w' ⟨he, hb⟩ => ⟨he, Or.inl rfl, hb⟩
  · rcases hR with h | ⟨b, off, rfl, hb, hR⟩
    · exact absurd h h0
    rcases hC with h | ⟨b', off', rfl, hb', hC⟩
    · exact absurd h h0
    refine (make_some b off b' off' n c c' R C w hn hb hb' hR hC).mono fun e w' ⟨he, hcell, hbl⟩ => ⟨he, Or.inr ⟨w.heap.size + 1, 0, rfl, World.block_lt_of_cell? _ _ (hcell 0 (by omega)).1, fun i hi => ?_⟩, hbl⟩
    simpa using hcell i hi

end Go.Proofs.Qxb6627996aDoor
