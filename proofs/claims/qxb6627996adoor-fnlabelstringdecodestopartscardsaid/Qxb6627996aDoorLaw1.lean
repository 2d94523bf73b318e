/-
  The walk of FnLabelStringDecodesToParts.
-/
import Derived.Test.Qxb6627996aDoorHead
import Derived.Deep.QuietTactic
import Derived.BigQuiet
namespace Go.Proofs.Qxb6627996aDoor
open Go.RowKit

set_option maxRecDepth 20000 in
set_option maxHeartbeats 1000000 in
theorem law1_some (x x' : Addr) (n c c' : Nat) (R C : Nat → Int) (w : World) (hn : n ≤ 65536) (hR : NR .i64 w (some x) n R) (hC : NR .u64 w (some x') n C) (hT : Tab w.heap.size w)
    (r1 : ∀ i, i < n → R i ≤ 9223372036854775807) (d0 : ∀ i, i < n → 0 ≤ C i) (d1 : ∀ i, i < n → C i ≤ 18446744073709551615) :
    Calls Tryd.prog 3 #[.slice (some x) n c, .slice (some x') n c'] w fun e w' => e = .returned (.bool true) ∧ Below w.heap.size w w' := by
  obtain ⟨i3, hi3, hz30, hz31, hz32⟩ := info_parts info3
  obtain ⟨i25, hi25, hz250, hz251, hz252⟩ := info_parts info25
  have hnil := fun wx => run_neq_slice_nil_any (P := Tryd.prog) wx 22 3 (some x) n c 0 0 Tryd.underlying22
  have hnil' := fun wx => run_neq_slice_nil_any (P := Tryd.prog) wx 23 25 (some x') n c' 0 0 Tryd.underlying23
  have hnn : ((n : Int) != (n : Int)) = false := by simp
  have HR : Hid (NR .i64 w (some x) n R) := hR
  have HC : Hid (NR .u64 w (some x') n C) := hC
  have HT : Hid (Tab w.heap.size w) := hT
  have HF : Hid ((∀ i, i < n → R i ≤ 9223372036854775807) ∧ (∀ i, i < n → 0 ≤ C i) ∧ (∀ i, i < n → C i ≤ 18446744073709551615)) := ⟨r1, d0, d1⟩
  clear hR hC hT r1 d0 d1
  go_enter Tryd.func3, Tryd.ntmps3
  go_wp2_with (first | (go_at_call 5; refine (zzBytes5_yes _ _ _ _ _ _ _ (by omega)).mono ?_; rintro e w' ⟨rfl, rfl⟩) | (at_make; refine wpList_make_full _ rfl _ _ 22 rfl w.heap.size 3 i3 _ 1 Tryd.underlying22 hi3 hz30 hz31 .i64 .i64 n n n rfl rfl rfl rfl (by rw [hz32]; omega) (by unfold maxLen; omega) (Nat.le_refl _) ?_))
  intro w1 hown1 hgrow1
  have hb1 : Below w.heap.size w w1 := (Below.refl _ _).grown hgrow1 (Nat.le_refl _) (by simp)
  obtain ⟨cur1, hcl1, hh1⟩ := made_heap hown1
  clear hown1 hgrow1
  have hs1 := fun hp => src_of HR.out hb1 hp
  go_wp2_with (refine wpList_copy_splice rfl (.tmp 29) (.tmp 30) 22 22 rfl 3 Tryd.underlying22 (by kernel_rfl) _ _ _ _ _ _ rfl rfl w.heap.size 0 cur1 3 hh1 (cellsZ .i64 n R) (by rw [cellsZ_length]; exact (Nat.min_self n).symm) (fun hp => ⟨rfl, hs1 hp⟩) (by rw [cellsZ_length]; omega) (cellsZ_one _ _ _) w.heap.size w hb1 (Nat.le_refl _) ?_)
  intro w2 HG2 hb2
  have N2 : NR .i64 w2 (some ⟨w.heap.size, 0, none⟩) n R := nr_of_heap hcl1 HG2.out
  have z2 : w.heap.size < w2.heap.size := by
    rcases N2 with h | ⟨b, off, e, h, _⟩
    · rcases Nat.lt_or_ge w.heap.size w2.heap.size with h1 | h1
      · exact h1
      · have := HG2.out; rw [Array.getElem?_eq_none h1] at this; cases this
    · cases e; exact h
  clear hs1 hh1 hcl1 HG2 hb1 hnil
  go_wp2_with (at_make; refine wpList_make_full _ rfl _ _ 23 rfl w2.heap.size 25 i25 _ 1 Tryd.underlying23 hi25 hz250 hz251 .i64 .i64 n n n rfl rfl rfl rfl (by rw [hz252]; omega) (by unfold maxLen; omega) (Nat.le_refl _) ?_)
  intro w3 hown3 hgrow3
  have hb23 : Below w2.heap.size w2 w3 := (Below.refl _ _).grown hgrow3 (Nat.le_refl _) (by simp)
  obtain ⟨cur3, hcl3, hh3⟩ := made_heap hown3
  clear hown3 hgrow3
  have hs3 := fun hp => src_of HC.out (hb2.trans (hb23.mono (by omega))) hp
  go_wp2_with (refine wpList_copy_splice rfl (.tmp 38) (.tmp 39) 23 23 rfl 25 Tryd.underlying23 (by kernel_rfl) _ _ _ _ _ _ rfl rfl w2.heap.size 0 cur3 25 hh3 (cellsZ .u64 n C) (by rw [cellsZ_length]; exact (Nat.min_self n).symm) (fun hp => ⟨rfl, hs3 hp⟩) (by rw [cellsZ_length]; omega) (cellsZ_one _ _ _) w2.heap.size w2 hb23 (Nat.le_refl _) ?_)
  intro w4 HG4 hb4
  have N4 : NR .u64 w4 (some ⟨w2.heap.size, 0, none⟩) n C := nr_of_heap hcl3 HG4.out
  have N3 : NR .i64 w4 (some ⟨w.heap.size, 0, none⟩) n R := N2.below hb4
  have B4 : Below w.heap.size w w4 := hb2.step hb4
  clear hs3 hh3 hcl3 HG4 hb23 hnil' N2 HR HC hi3 hz30 hz31 hz32 hi25 hz250 hz251 hz252 hnn
  have cR : ∀ i, i < n → w4.cell? ⟨w.heap.size, i, none⟩ = some (.int .i64 (R i)) := by
    intro i hi
    rcases N3 with h | ⟨b, off, e, _, h⟩
    · omega
    · cases e; simpa using h i hi
  have cC : ∀ i, i < n → w4.cell? ⟨w2.heap.size, i, none⟩ = some (.int .u64 (C i)) := by
    intro i hi
    rcases N4 with h | ⟨b, off, e, _, h⟩
    · omega
    · cases e; simpa using h i hi
  go_wp2
  go_loopw [7] (fun i wr => ∃ k : Nat, k ≤ n ∧ i = .int .i64 k ∧ Hid (∀ j, j < k → 0 ≤ R j) ∧ ∃ q, wr = w4.drewN q) (fun i _ => n - (intOf i).toNat)
  case atStart => exact ⟨0, Nat.zero_le _, rfl, fun j hj => absurd hj (Nat.not_lt_zero _), 0, rfl⟩
  case round =>
    obtain ⟨k, hk, rfl, HK, q, rfl⟩ := hrel
    by_cases hlt : k < n
    · have c1 := cR k hlt
      have c2 := cC k hlt
      by_cases hneg : R k < 0
      · go_wp2
        go_ret
        exact ⟨rfl, below_drewN B4 q⟩
      by_cases hz : C k = 0
      · have hz' : (C k == 0) = true := by rw [beq_iff_eq]; exact hz
        go_wp2
        go_ret
        exact ⟨rfl, below_drewN B4 q⟩
      have hz' : (C k == 0) = false := by rw [beq_eq_false_iff_ne]; exact hz
      have HK1 : Hid (∀ j, j < k + 1 → 0 ≤ R j) := fun j hj => by
        rcases Nat.lt_succ_iff_lt_or_eq.1 hj with h | rfl
        · exact HK.out j h
        · omega
      clear hz
      by_cases hk0 : k = 0
      · have hkt : ¬ (0 : Int) < (k : Int) := by omega
        have hkn : ¬ 0 < k := by omega
        have hkd : decide (0 < k) = false := by simpa using hkn
        clear hk0
        go_wp2
        go_quiet (fail)
        go_wp2
        go_roundw
        case rel => exact ⟨k + 1, by omega, by go_num, HK1, q + nq, by simp⟩
        case measure => simp [intOf]; omega
      · have hkt : (0 : Int) < (k : Int) := by omega
        have c3 := cR (k - 1) (by omega)
        have hk1 : (k : Int) - 1 < (n : Int) := by omega
        have hlt' : (k : Int) < (n : Int) := by omega
        have hk2 : (0 : Int) ≤ (k : Int) - 1 := by omega
        have hkn : 0 < k := by omega
        clear hk0
        go_wp2
        go_quiet (fail)
        go_wp2
        · go_ret
          exact ⟨rfl, below_drewN (below_drewN B4 q) _⟩
        · go_roundw
          case rel => exact ⟨k + 1, by omega, by go_num, HK1, q + nq, by simp⟩
          case measure => simp [intOf]; omega
    · obtain rfl : k = n := by omega
      have hf : Fits k R C := ⟨HK.out, HF.out.1, HF.out.2.1, HF.out.2.2⟩
      have D4 : Below w4.heap.size w4 (w4.drewN q) := below_drewN (Below.refl _ _) q
      clear cR cC
      go_wp2_with fail
      refine (make_any k _ _ _ _ R C _ hn (N3.below D4) (N4.below D4)).mono ?_
      rintro e w5 ⟨rfl, hP5, hb5⟩
      have B5 : Below w.heap.size w w5 := (below_drewN B4 q).step hb5
      go_wp2_with fail
      refine (str_any k _ _ R C _ hn hf (HT.out.at B5) hP5).mono ?_
      rintro e w6 ⟨rfl, hb6⟩
      have B6 : Below w.heap.size w w6 := B5.step hb6
      have E6 : Below w4.heap.size w4 w6 := (D4.step hb5).step hb6
      go_wp2_with fail
      refine (dec_any k _ _ _ _ R C _ hn hf (N3.below E6) (N4.below E6)).mono ?_
      rintro e w7 ⟨rfl, rfl⟩
      go_wp2
      go_ret
      exact ⟨rfl, B6⟩

theorem fits_none (R C : Nat → Int) : Fits 0 R C := ⟨fun _ h => absurd h (Nat.not_lt_zero _), fun _ h => absurd h (Nat.not_lt_zero _), fun _ h => absurd h (Nat.not_lt_zero _), fun _ h => absurd h (Nat.not_lt_zero _)⟩

set_option maxRecDepth 20000 in
set_option maxHeartbeats 1000000 in
theorem law1_none (w : World) (hT : Tab w.heap.size w) :
    Calls Tryd.prog 3 #[.slice none 0 0, .slice none 0 0] w fun e w' => e = .returned (.bool true) ∧ Below w.heap.size w w' := by
  have hnil := fun wx => run_neq_slice_nil_any (P := Tryd.prog) wx 22 3 none 0 0 0 0 Tryd.underlying22
  have hnil' := fun wx => run_neq_slice_nil_any (P := Tryd.prog) wx 23 25 none 0 0 0 0 Tryd.underlying23
  have HT : Hid (Tab w.heap.size w) := hT
  clear hT
  go_enter Tryd.func3, Tryd.ntmps3
  go_wp2_with (go_at_call 5; refine (zzBytes5_yes _ _ _ _ _ _ _ (by omega)).mono ?_; rintro e w' ⟨rfl, rfl⟩)
  refine wp_loop_rounds 1 ?_
  rw [rounds_succ]
  go_wp2_with fail
  refine (make_any 0 _ _ _ _ (fun _ => 0) (fun _ => 0) _ (by omega) (Or.inl rfl) (Or.inl rfl)).mono ?_
  rintro e w5 ⟨rfl, hP5, hb5⟩
  go_wp2_with fail
  refine (str_any 0 _ _ _ _ _ (by omega) (fits_none _ _) (HT.out.at hb5) hP5).mono ?_
  rintro e w6 ⟨rfl, hb6⟩
  go_wp2_with fail
  refine (dec_any 0 _ _ _ _ _ _ _ (by omega) (fits_none _ _) (Or.inl rfl) (Or.inl rfl)).mono ?_
  rintro e w7 ⟨rfl, rfl⟩
  go_wp2
  go_ret
  exact ⟨rfl, hb5.step hb6⟩

set_option maxRecDepth 20000 in
set_option maxHeartbeats 1000000 in
theorem law1_left (x : Addr) (c : Nat) (w : World) (hT : Tab w.heap.size w) :
    Calls Tryd.prog 3 #[.slice (some x) 0 c, .slice none 0 0] w fun e w' => e = .returned (.bool true) ∧ Below w.heap.size w w' := by
  obtain ⟨i3, hi3, hz30, hz31, hz32⟩ := info_parts info3
  have hnil := fun wx => run_neq_slice_nil_any (P := Tryd.prog) wx 22 3 (some x) 0 c 0 0 Tryd.underlying22
  have hnil' := fun wx => run_neq_slice_nil_any (P := Tryd.prog) wx 23 25 none 0 0 0 0 Tryd.underlying23
  have HT : Hid (Tab w.heap.size w) := hT
  clear hT
  go_enter Tryd.func3, Tryd.ntmps3
  go_wp2_with (first | (go_at_call 5; refine (zzBytes5_yes _ _ _ _ _ _ _ (by omega)).mono ?_; rintro e w' ⟨rfl, rfl⟩) | (at_make; refine wpList_make_full _ rfl _ _ 22 rfl w.heap.size 3 i3 _ 1 Tryd.underlying22 hi3 hz30 hz31 .i64 .i64 0 0 0 rfl rfl rfl rfl (by rw [hz32]; omega) (by unfold maxLen; omega) (Nat.le_refl _) ?_))
  intro w1 hown1 hgrow1
  have hb1 : Below w.heap.size w w1 := (Below.refl _ _).grown hgrow1 (Nat.le_refl _) (by simp)
  clear hown1 hgrow1
  go_wp2_with (refine wpList_copy_nothing rfl (.tmp 29) (.tmp 30) 22 22 rfl 3 Tryd.underlying22 (by kernel_rfl) _ _ _ _ _ _ rfl rfl rfl ?_)
  refine wp_loop_rounds 1 ?_
  rw [rounds_succ]
  go_wp2_with fail
  refine (make_any 0 _ _ _ _ (fun _ => 0) (fun _ => 0) _ (by omega) (Or.inl rfl) (Or.inl rfl)).mono ?_
  rintro e w5 ⟨rfl, hP5, hb5⟩
  go_wp2_with fail
  refine (str_any 0 _ _ _ _ _ (by omega) (fits_none _ _) (HT.out.at (hb1.step hb5)) hP5).mono ?_
  rintro e w6 ⟨rfl, hb6⟩
  go_wp2_with fail
  refine (dec_any 0 _ _ _ _ _ _ _ (by omega) (fits_none _ _) (Or.inl rfl) (Or.inl rfl)).mono ?_
  rintro e w7 ⟨rfl, rfl⟩
  go_wp2
  go_ret
  exact ⟨rfl, (hb1.step hb5).step hb6⟩

set_option maxRecDepth 20000 in
set_option maxHeartbeats 1000000 in
theorem law1_right (x : Addr) (c : Nat) (w : World) (hT : Tab w.heap.size w) :
    Calls Tryd.prog 3 #[.slice none 0 0, .slice (some x) 0 c] w fun e w' => e = .returned (.bool true) ∧ Below w.heap.size w w' := by
  obtain ⟨i25, hi25, hz250, hz251, hz252⟩ := info_parts info25
  have hnil := fun wx => run_neq_slice_nil_any (P := Tryd.prog) wx 22 3 none 0 0 0 0 Tryd.underlying22
  have hnil' := fun wx => run_neq_slice_nil_any (P := Tryd.prog) wx 23 25 (some x) 0 c 0 0 Tryd.underlying23
  have HT : Hid (Tab w.heap.size w) := hT
  clear hT
  go_enter Tryd.func3, Tryd.ntmps3
  go_wp2_with (first | (go_at_call 5; refine (zzBytes5_yes _ _ _ _ _ _ _ (by omega)).mono ?_; rintro e w' ⟨rfl, rfl⟩) | (at_make; refine wpList_make_full _ rfl _ _ 23 rfl w.heap.size 25 i25 _ 1 Tryd.underlying23 hi25 hz250 hz251 .i64 .i64 0 0 0 rfl rfl rfl rfl (by rw [hz252]; omega) (by unfold maxLen; omega) (Nat.le_refl _) ?_))
  intro w1 hown1 hgrow1
  have hb1 : Below w.heap.size w w1 := (Below.refl _ _).grown hgrow1 (Nat.le_refl _) (by simp)
  clear hown1 hgrow1
  go_wp2_with (refine wpList_copy_nothing rfl (.tmp 38) (.tmp 39) 23 23 rfl 25 Tryd.underlying23 (by kernel_rfl) _ _ _ _ _ _ rfl rfl rfl ?_)
  refine wp_loop_rounds 1 ?_
  rw [rounds_succ]
  go_wp2_with fail
  refine (make_any 0 _ _ _ _ (fun _ => 0) (fun _ => 0) _ (by omega) (Or.inl rfl) (Or.inl rfl)).mono ?_
  rintro e w5 ⟨rfl, hP5, hb5⟩
  go_wp2_with fail
  refine (str_any 0 _ _ _ _ _ (by omega) (fits_none _ _) (HT.out.at (hb1.step hb5)) hP5).mono ?_
  rintro e w6 ⟨rfl, hb6⟩
  go_wp2_with fail
  refine (dec_any 0 _ _ _ _ _ _ _ (by omega) (fits_none _ _) (Or.inl rfl) (Or.inl rfl)).mono ?_
  rintro e w7 ⟨rfl, rfl⟩
  go_wp2
  go_ret
  exact ⟨rfl, (hb1.step hb5).step hb6⟩

set_option maxHeartbeats 400000 in
theorem law1_any (a a' : Option Addr) (n c n' c' : Nat) (R C : Nat → Int) (w : World) (hm : n ≤ 9223372036854775807) (hm' : n' ≤ 9223372036854775807) (hR : NR .i64 w a n R) (hC : NR .u64 w a' n' C) (ha : a = none → n = 0 ∧ c = 0) (ha' : a' = none → n' = 0 ∧ c' = 0) (hT : Tab w.heap.size w)
    (r1 : ∀ i, i < n → R i ≤ 9223372036854775807) (d0 : ∀ i, i < n' → 0 ≤ C i) (d1 : ∀ i, i < n' → C i ≤ 18446744073709551615) :
    Calls Tryd.prog 3 #[.slice a n c, .slice a' n' c'] w fun e w' => e = .returned (.bool true) ∧ Below w.heap.size w w' := by
  by_cases h1 : 1048576 < n + n'
  · clear hR hC ha ha' hT r1 d0 d1
    go_enter Tryd.func3, Tryd.ntmps3
    go_wp2_with (go_at_call 5; refine (zzBytes5_no _ _ _ _ _ _ _ h1 hm hm').mono ?_; rintro e w' ⟨rfl, rfl⟩)
    go_ret
    exact ⟨rfl, Below.refl _ _⟩
  have h1' : n + n' ≤ 1048576 := by omega
  by_cases h2 : 65536 < n
  · clear hR hC ha ha' hT r1 d0 d1
    go_enter Tryd.func3, Tryd.ntmps3
    go_wp2_with (go_at_call 5; refine (zzBytes5_yes _ _ _ _ _ _ _ h1').mono ?_; rintro e w' ⟨rfl, rfl⟩)
    go_ret
    exact ⟨rfl, Below.refl _ _⟩
  by_cases h3 : 65536 < n'
  · clear hR hC ha ha' hT r1 d0 d1
    go_enter Tryd.func3, Tryd.ntmps3
    go_wp2_with (go_at_call 5; refine (zzBytes5_yes _ _ _ _ _ _ _ h1').mono ?_; rintro e w' ⟨rfl, rfl⟩)
    go_ret
    exact ⟨rfl, Below.refl _ _⟩
  by_cases h4 : n = n'
  · subst h4
    cases a with
    | none =>
      obtain ⟨rfl, rfl⟩ := ha rfl
      cases a' with
      | none =>
        obtain ⟨_, rfl⟩ := ha' rfl
        exact law1_none w hT
      | some x' => exact law1_right x' c' w hT
    | some x =>
      cases a' with
      | none =>
        obtain ⟨rfl, rfl⟩ := ha' rfl
        exact law1_left x c w hT
      | some x' => exact law1_some x x' n c c' R C w (by omega) hR hC hT r1 d0 d1
  · have h4' : ((n : Int) != (n' : Int)) = true := by rw [bne_iff_ne]; omega
    clear hR hC ha ha' hT r1 d0 d1
    go_enter Tryd.func3, Tryd.ntmps3
    go_wp2_with (go_at_call 5; refine (zzBytes5_yes _ _ _ _ _ _ _ h1').mono ?_; rintro e w' ⟨rfl, rfl⟩)
    go_ret
    exact ⟨rfl, Below.refl _ _⟩

end Go.Proofs.Qxb6627996aDoor
