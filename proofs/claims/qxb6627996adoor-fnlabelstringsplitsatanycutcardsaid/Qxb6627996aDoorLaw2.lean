/-
  FnLabelStringSplitsAtAnyCut at every call.
-/
import Derived.Test.Qxb6627996aDoorSplit
namespace Go.Proofs.Qxb6627996aDoor
open Go.RowKit

set_option maxRecDepth 20000 in
set_option maxHeartbeats 1000000 in
theorem law2_none (z : Int) (w : World) :
    Calls Tryd.prog 4 #[.slice none 0 0, .slice none 0 0, .int .i64 z] w fun e w' => e = .returned (.bool true) ∧ Below w.heap.size w w' := by
  have hnil := fun wx => run_neq_slice_nil_any (P := Tryd.prog) wx 22 3 none 0 0 0 0 Tryd.underlying22
  have hnil' := fun wx => run_neq_slice_nil_any (P := Tryd.prog) wx 23 25 none 0 0 0 0 Tryd.underlying23
  go_enter Tryd.func4, Tryd.ntmps4
  go_wp2_with (go_at_call 9; refine (zzBytes9_yes _ _ _ _ _ _ _ _ (by omega)).mono ?_; rintro e w' ⟨rfl, rfl⟩)
  refine wp_loop_rounds 1 ?_
  rw [rounds_succ]
  by_cases hz1 : z < 1
  · go_wp2
    go_ret
    exact ⟨rfl, Below.refl _ _⟩
  · have hz2 : (0 : Int) ≤ z := by omega
    go_wp2
    go_ret
    exact ⟨rfl, Below.refl _ _⟩

set_option maxRecDepth 20000 in
set_option maxHeartbeats 1000000 in
theorem law2_left (x : Addr) (c : Nat) (z : Int) (w : World) :
    Calls Tryd.prog 4 #[.slice (some x) 0 c, .slice none 0 0, .int .i64 z] w fun e w' => e = .returned (.bool true) ∧ Below w.heap.size w w' := by
  obtain ⟨i3, hi3, hz30, hz31, hz32⟩ := info_parts info3
  have hnil := fun wx => run_neq_slice_nil_any (P := Tryd.prog) wx 22 3 (some x) 0 c 0 0 Tryd.underlying22
  have hnil' := fun wx => run_neq_slice_nil_any (P := Tryd.prog) wx 23 25 none 0 0 0 0 Tryd.underlying23
  go_enter Tryd.func4, Tryd.ntmps4
  go_wp2_with (first | (go_at_call 9; refine (zzBytes9_yes _ _ _ _ _ _ _ _ (by omega)).mono ?_; rintro e w' ⟨rfl, rfl⟩) | (at_make; refine wpList_make_full _ rfl _ _ 22 rfl w.heap.size 3 i3 _ 1 Tryd.underlying22 hi3 hz30 hz31 .i64 .i64 0 0 0 rfl rfl rfl rfl (by rw [hz32]; omega) (by unfold maxLen; omega) (Nat.le_refl _) ?_))
  intro w1 hown1 hgrow1
  have hb1 : Below w.heap.size w w1 := (Below.refl _ _).grown hgrow1 (Nat.le_refl _) (by simp)
  clear hown1 hgrow1
  go_wp2_with (refine wpList_copy_nothing rfl (.tmp 34) (.tmp 35) 22 22 rfl 3 Tryd.underlying22 (by kernel_rfl) _ _ _ _ _ _ rfl rfl rfl ?_)
  refine wp_loop_rounds 1 ?_
  rw [rounds_succ]
  by_cases hz1 : z < 1
  · go_wp2
    go_ret
    exact ⟨rfl, hb1⟩
  · have hz2 : (0 : Int) ≤ z := by omega
    go_wp2
    go_ret
    exact ⟨rfl, hb1⟩

set_option maxRecDepth 20000 in
set_option maxHeartbeats 1000000 in
theorem law2_right (x : Addr) (c : Nat) (z : Int) (w : World) :
    Calls Tryd.prog 4 #[.slice none 0 0, .slice (some x) 0 c, .int .i64 z] w fun e w' => e = .returned (.bool true) ∧ Below w.heap.size w w' := by
  obtain ⟨i25, hi25, hz250, hz251, hz252⟩ := info_parts info25
  have hnil := fun wx => run_neq_slice_nil_any (P := Tryd.prog) wx 22 3 none 0 0 0 0 Tryd.underlying22
  have hnil' := fun wx => run_neq_slice_nil_any (P := Tryd.prog) wx 23 25 (some x) 0 c 0 0 Tryd.underlying23
  go_enter Tryd.func4, Tryd.ntmps4
  go_wp2_with (first | (go_at_call 9; refine (zzBytes9_yes _ _ _ _ _ _ _ _ (by omega)).mono ?_; rintro e w' ⟨rfl, rfl⟩) | (at_make; refine wpList_make_full _ rfl _ _ 23 rfl w.heap.size 25 i25 _ 1 Tryd.underlying23 hi25 hz250 hz251 .i64 .i64 0 0 0 rfl rfl rfl rfl (by rw [hz252]; omega) (by unfold maxLen; omega) (Nat.le_refl _) ?_))
  intro w1 hown1 hgrow1
  have hb1 : Below w.heap.size w w1 := (Below.refl _ _).grown hgrow1 (Nat.le_refl _) (by simp)
  clear hown1 hgrow1
  go_wp2_with (refine wpList_copy_nothing rfl (.tmp 43) (.tmp 44) 23 23 rfl 25 Tryd.underlying23 (by kernel_rfl) _ _ _ _ _ _ rfl rfl rfl ?_)
  refine wp_loop_rounds 1 ?_
  rw [rounds_succ]
  by_cases hz1 : z < 1
  · go_wp2
    go_ret
    exact ⟨rfl, hb1⟩
  · have hz2 : (0 : Int) ≤ z := by omega
    go_wp2
    go_ret
    exact ⟨rfl, hb1⟩

set_option maxHeartbeats 400000 in
theorem law2_any (a a' : Option Addr) (n c n' c' : Nat) (z : Int) (R C : Nat → Int) (w : World) (hm : n ≤ 9223372036854775807) (hm' : n' ≤ 9223372036854775807) (hR : NR .i64 w a n R) (hC : NR .u64 w a' n' C) (ha : a = none → n = 0 ∧ c = 0) (ha' : a' = none → n' = 0 ∧ c' = 0) (hT : Tab w.heap.size w)
    (r1 : ∀ i, i < n → R i ≤ 9223372036854775807) (d0 : ∀ i, i < n' → 0 ≤ C i) (d1 : ∀ i, i < n' → C i ≤ 18446744073709551615) :
    Calls Tryd.prog 4 #[.slice a n c, .slice a' n' c', .int .i64 z] w fun e w' => e = .returned (.bool true) ∧ Below w.heap.size w w' := by
  by_cases h1 : 1048576 < n + n'
  · clear hR hC ha ha' hT r1 d0 d1
    go_enter Tryd.func4, Tryd.ntmps4
    go_wp2_with (go_at_call 9; refine (zzBytes9_no _ _ _ _ _ _ _ _ h1 hm hm').mono ?_; rintro e w' ⟨rfl, rfl⟩)
    go_ret
    exact ⟨rfl, Below.refl _ _⟩
  have h1' : n + n' ≤ 1048576 := by omega
  by_cases h2 : 65536 < n
  · clear hR hC ha ha' hT r1 d0 d1
    go_enter Tryd.func4, Tryd.ntmps4
    go_wp2_with (go_at_call 9; refine (zzBytes9_yes _ _ _ _ _ _ _ _ h1').mono ?_; rintro e w' ⟨rfl, rfl⟩)
    go_ret
    exact ⟨rfl, Below.refl _ _⟩
  by_cases h3 : 65536 < n'
  · clear hR hC ha ha' hT r1 d0 d1
    go_enter Tryd.func4, Tryd.ntmps4
    go_wp2_with (go_at_call 9; refine (zzBytes9_yes _ _ _ _ _ _ _ _ h1').mono ?_; rintro e w' ⟨rfl, rfl⟩)
    go_ret
    exact ⟨rfl, Below.refl _ _⟩
  by_cases h4 : n = n'
  · subst h4
    cases a with
    | none =>
      obtain ⟨rfl, rfl⟩ := ha rfl
      cases a' with
      | none =>
        obtain ⟨_, rfl⟩ := ha' rfl
        exact law2_none z w
      | some x' => exact law2_right x' c' z w
    | some x =>
      cases a' with
      | none =>
        obtain ⟨rfl, rfl⟩ := ha' rfl
        exact law2_left x c z w
      | some x' => exact law2_some x x' n c c' z R C w (by omega) hR hC hT r1 d0 d1
  · have h4' : ((n : Int) != (n' : Int)) = true := by rw [bne_iff_ne]; omega
    clear hR hC ha ha' hT r1 d0 d1
    go_enter Tryd.func4, Tryd.ntmps4
    go_wp2_with (go_at_call 9; refine (zzBytes9_yes _ _ _ _ _ _ _ _ h1').mono ?_; rintro e w' ⟨rfl, rfl⟩)
    go_ret
    exact ⟨rfl, Below.refl _ _⟩

end Go.Proofs.Qxb6627996aDoor
