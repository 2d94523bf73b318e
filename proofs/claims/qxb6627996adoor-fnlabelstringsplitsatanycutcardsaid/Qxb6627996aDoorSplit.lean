/-
  The walk of FnLabelStringSplitsAtAnyCut.
-/
import Derived.Test.Qxb6627996aDoorCut
import Derived.Deep.QuietTactic
import Derived.BigQuiet
import Derived.Deep.RegionWith
import Derived.Deep.DeepCutAuto
namespace Go.Proofs.Qxb6627996aDoor
open Go.RowKit

set_option maxRecDepth 20000 in
set_option maxHeartbeats 1000000 in
theorem law2_some (x x' : Addr) (n c c' : Nat) (z : Int) (R C : Nat → Int) (w : World) (hn : n ≤ 65536) (hR : NR .i64 w (some x) n R) (hC : NR .u64 w (some x') n C) (hT : Tab w.heap.size w)
    (r1 : ∀ i, i < n → R i ≤ 9223372036854775807) (d0 : ∀ i, i < n → 0 ≤ C i) (d1 : ∀ i, i < n → C i ≤ 18446744073709551615) :
    Calls Tryd.prog 4 #[.slice (some x) n c, .slice (some x') n c', .int .i64 z] w fun e w' => e = .returned (.bool true) ∧ Below w.heap.size w w' := by
  obtain ⟨i3, hi3, hz30, hz31, hz32⟩ := info_parts info3
  obtain ⟨i25, hi25, hz250, hz251, hz252⟩ := info_parts info25
  have hnil := fun wx => run_neq_slice_nil_any (P := Tryd.prog) wx 22 3 (some x) n c 0 0 Tryd.underlying22
  have hnil' := fun wx => run_neq_slice_nil_any (P := Tryd.prog) wx 23 25 (some x') n c' 0 0 Tryd.underlying23
  have hnn : ((n : Int) != (n : Int)) = false := by simp
  have HR : Hid (NR .i64 w (some x) n R) := hR
  have HC : Hid (NR .u64 w (some x') n C) := hC
  have HT : Hid (Tab w.heap.size w) := hT
  have HF : Hid ((∀ i, i < n → R i ≤ 9223372036854775807) ∧ (∀ i, i < n → 0 ≤ C i) ∧ (∀ i, i < n → C i ≤ 18446744073709551615)) := ⟨r1, d0, d1⟩
  clear hR hC hT r1 d0 d1
  go_enter Tryd.func4, Tryd.ntmps4
  go_wp2_with (first | (go_at_call 9; refine (zzBytes9_yes _ _ _ _ _ _ _ _ (by omega)).mono ?_; rintro e w' ⟨rfl, rfl⟩) | (at_make; refine wpList_make_full _ rfl _ _ 22 rfl w.heap.size 3 i3 _ 1 Tryd.underlying22 hi3 hz30 hz31 .i64 .i64 n n n rfl rfl rfl rfl (by rw [hz32]; omega) (by unfold maxLen; omega) (Nat.le_refl _) ?_))
  intro w1 hown1 hgrow1
  have hb1 : Below w.heap.size w w1 := (Below.refl _ _).grown hgrow1 (Nat.le_refl _) (by simp)
  obtain ⟨cur1, hcl1, hh1⟩ := made_heap hown1
  clear hown1 hgrow1
  have hs1 := fun hp => src_of HR.out hb1 hp
  go_wp2_with (refine wpList_copy_splice rfl (.tmp 34) (.tmp 35) 22 22 rfl 3 Tryd.underlying22 (by kernel_rfl) _ _ _ _ _ _ rfl rfl w.heap.size 0 cur1 3 hh1 (cellsZ .i64 n R) (by rw [cellsZ_length]; exact (Nat.min_self n).symm) (fun hp => ⟨rfl, hs1 hp⟩) (by rw [cellsZ_length]; omega) (cellsZ_one _ _ _) w.heap.size w hb1 (Nat.le_refl _) ?_)
  intro w2 HG2 hb2
  have N2 : NR .i64 w2 (some ⟨w.heap.size, 0, none⟩) n R := nr_of_heap hcl1 HG2.out
  have z2 : w.heap.size < w2.heap.size := by
    rcases N2 with h | ⟨b, off, e, h, _⟩
    · rcases Nat.lt_or_ge w.heap.size w2.heap.size with h1 | h1
      · exact h1
      · have := HG2.out; rw [Array.getElem?_eq_none h1] at this; cases this
    · cases e; exact h
  clear hs1 hh1 hcl1 HG2 hb1 hnil
  go_wp2_with (at_make; refine wpList_make_full _ rfl _ _ 23 rfl w2.heap.size 25 i25 _ 1 Tryd.underlying23 hi25 hz250 hz251 .i64 .i64 n n n rfl rfl rfl rfl (by rw [hz252]; omega) (by unfold maxLen; omega) (Nat.le_refl _) ?_)
  intro w3 hown3 hgrow3
  have hb23 : Below w2.heap.size w2 w3 := (Below.refl _ _).grown hgrow3 (Nat.le_refl _) (by simp)
  obtain ⟨cur3, hcl3, hh3⟩ := made_heap hown3
  clear hown3 hgrow3
  have hs3 := fun hp => src_of HC.out (hb2.trans (hb23.mono (by omega))) hp
  go_wp2_with (refine wpList_copy_splice rfl (.tmp 43) (.tmp 44) 23 23 rfl 25 Tryd.underlying23 (by kernel_rfl) _ _ _ _ _ _ rfl rfl w2.heap.size 0 cur3 25 hh3 (cellsZ .u64 n C) (by rw [cellsZ_length]; exact (Nat.min_self n).symm) (fun hp => ⟨rfl, hs3 hp⟩) (by rw [cellsZ_length]; omega) (cellsZ_one _ _ _) w2.heap.size w2 hb23 (Nat.le_refl _) ?_)
  intro w4 HG4 hb4
  have N4 : NR .u64 w4 (some ⟨w2.heap.size, 0, none⟩) n C := nr_of_heap hcl3 HG4.out
  have N3 : NR .i64 w4 (some ⟨w.heap.size, 0, none⟩) n R := N2.below hb4
  have B4 : Below w.heap.size w w4 := hb2.step hb4
  clear hs3 hh3 hcl3 HG4 hb23 hnil' N2 HR HC hi3 hz30 hz31 hz32 hi25 hz250 hz251 hz252 hnn
  have cR : ∀ i, i < n → w4.cell? ⟨w.heap.size, i, none⟩ = some (.int .i64 (R i)) := by
    intro i hi
    rcases N3 with h | ⟨b, off, e, _, h⟩
    · omega
    · cases e; simpa using h i hi
  have cC : ∀ i, i < n → w4.cell? ⟨w2.heap.size, i, none⟩ = some (.int .u64 (C i)) := by
    intro i hi
    rcases N4 with h | ⟨b, off, e, _, h⟩
    · omega
    · cases e; simpa using h i hi
  go_wp2
  go_loopw [9] (fun i wr => ∃ k : Nat, k ≤ n ∧ i = .int .i64 k ∧ Hid (∀ j, j < k → 0 ≤ R j) ∧ ∃ q, wr = w4.drewN q) (fun i _ => n - (intOf i).toNat)
  case atStart => exact ⟨0, Nat.zero_le _, rfl, fun j hj => absurd hj (Nat.not_lt_zero _), 0, rfl⟩
  case round =>
    obtain ⟨k, hk, rfl, HK, q, rfl⟩ := hrel
    by_cases hlt : k < n
    · have c1 := cR k hlt
      have c2 := cC k hlt
      by_cases hneg : R k < 0
      · go_wp2
        go_ret
        exact ⟨rfl, below_drewN B4 q⟩
      by_cases hz : C k = 0
      · have hz' : (C k == 0) = true := by rw [beq_iff_eq]; exact hz
        go_wp2
        go_ret
        exact ⟨rfl, below_drewN B4 q⟩
      have hz' : (C k == 0) = false := by rw [beq_eq_false_iff_ne]; exact hz
      have HK1 : Hid (∀ j, j < k + 1 → 0 ≤ R j) := fun j hj => by
        rcases Nat.lt_succ_iff_lt_or_eq.1 hj with h | rfl
        · exact HK.out j h
        · omega
      clear hz
      by_cases hk0 : k = 0
      · have hkt : ¬ (0 : Int) < (k : Int) := by omega
        have hkn : ¬ 0 < k := by omega
        have hkd : decide (0 < k) = false := by simpa using hkn
        clear hk0
        go_wp2
        go_quiet (fail)
        go_wp2
        go_roundw
        case rel => exact ⟨k + 1, by omega, by go_num, HK1, q + nq, by simp⟩
        case measure => simp [intOf]; omega
      · have hkt : (0 : Int) < (k : Int) := by omega
        have c3 := cR (k - 1) (by omega)
        have hk1 : (k : Int) - 1 < (n : Int) := by omega
        have hlt' : (k : Int) < (n : Int) := by omega
        have hk2 : (0 : Int) ≤ (k : Int) - 1 := by omega
        have hkn : 0 < k := by omega
        clear hk0
        go_wp2
        go_quiet (fail)
        go_wp2
        · go_ret
          exact ⟨rfl, below_drewN (below_drewN B4 q) _⟩
        · go_roundw
          case rel => exact ⟨k + 1, by omega, by go_num, HK1, q + nq, by simp⟩
          case measure => simp [intOf]; omega
    · obtain rfl : k = n := by omega
      have hf : Fits k R C := ⟨HK.out, HF.out.1, HF.out.2.1, HF.out.2.2⟩
      have D4 : Below w4.heap.size w4 (w4.drewN q) := below_drewN (Below.refl _ _) q
      clear cR cC
      by_cases hz1 : z < 1
      · go_wp2
        go_ret
        exact ⟨rfl, below_drewN B4 q⟩
      by_cases hz2 : (k : Int) ≤ z
      · go_wp2
        go_ret
        exact ⟨rfl, below_drewN B4 q⟩
      obtain ⟨m, rfl⟩ : ∃ m : Nat, z = m := ⟨z.toNat, by omega⟩
      have m1 : 1 ≤ m := by omega
      have m2 : m < k := by omega
      have m3 : ¬ k = m := by omega
      go_wp2_with fail
      refine (make_any k _ _ _ _ R C _ hn (N3.below D4) (N4.below D4)).mono ?_
      rintro e w5 ⟨rfl, hP5, hb5⟩
      have B5 : Below w.heap.size w w5 := (below_drewN B4 q).step hb5
      go_wp2_with fail
      refine (str_any k _ _ R C _ hn hf (HT.out.at B5) hP5).mono ?_
      rintro e w6 ⟨rfl, hb6⟩
      have B6 : Below w.heap.size w w6 := B5.step hb6
      have E6 : Below w4.heap.size w4 w6 := (D4.step hb5).step hb6
      clear hb5 hb6 hP5 D4 B5
      go_wp2_with fail
      have A7 : NR .i64 w6.drew (some ⟨w.heap.size, 0, none⟩) m R := (N3.below E6.drew).take (by omega)
      have A7' : NR .u64 w6.drew (some ⟨w2.heap.size, 0, none⟩) m C := (N4.below E6.drew).take (by omega)
      have hm6 : m ≤ 65536 := by omega
      have hfm : Fits m R C := hf.take (by omega)
      have D6 : Below w.heap.size w w6.drew := B6.drew
      go_cut [11] (fun s wx => s = .string ⟨(lab R C m).toArray⟩ ∧ Below w6.heap.size w6 wx)
      case first =>
        go_region_with (first | (go_at_call 6; refine (make_any m _ _ _ _ R C _ hm6 A7 A7').mono ?_; rintro e w7 ⟨rfl, hP7, hb7⟩) | (go_at_call 7; refine (str_any m _ _ R C _ hm6 hfm (HT.out.at (D6.step hb7)) hP7).mono ?_; rintro e w8 ⟨rfl, hb8⟩))
        all_goals (go_wp2_with fail; go_meet; exact ⟨rfl, ((Below.refl _ _).drew.step hb7).step hb8⟩)
      case rest =>
      obtain ⟨rfl, hb8⟩ := hcut
      have B8 : Below w.heap.size w wc := B6.step hb8
      have E8 : Below w4.heap.size w4 wc := E6.step hb8
      clear A7 A7' D6 B6 E6 hb8 w6
      go_wp2_with fail
      have A9 : NR .i64 wc.drew (some ⟨w.heap.size, m, none⟩) (k - m) (shift m R) := by simpa using (N3.below E8.drew).drop m2
      have A9' : NR .u64 wc.drew (some ⟨w2.heap.size, m, none⟩) (k - m) (shift m C) := by simpa using (N4.below E8.drew).drop m2
      have hm9 : k - m ≤ 65536 := by omega
      have hfd : Fits (k - m) (shift m R) (shift m C) := hf.drop m2
      have D8 : Below w.heap.size w wc.drew := B8.drew
      go_cut [12] (fun s wx => s = .string ⟨(lab (shift m R) (shift m C) (k - m)).toArray⟩ ∧ Below wc.heap.size wc wx)
      case first =>
        go_region_with (first | (go_at_call 6; refine (make_any (k - m) _ _ _ _ (shift m R) (shift m C) _ hm9 A9 A9').mono ?_; rintro e w9 ⟨rfl, hP9, hb9⟩) | (go_at_call 7; refine (str_any (k - m) _ _ (shift m R) (shift m C) _ hm9 hfd (HT.out.at (D8.step hb9)) hP9).mono ?_; rintro e w10 ⟨rfl, hb10⟩))
        all_goals (go_wp2_with fail; go_meet; exact ⟨rfl, ((Below.refl _ _).drew.step hb9).step hb10⟩)
      case rest =>
      obtain ⟨rfl, hb10⟩ := hcut
      have B10 : Below w.heap.size w wc := B8.step hb10
      have E10 : Below w4.heap.size w4 wc := E8.step hb10
      clear A9 A9' D8 B8 E8 hb10
      have M3 : NR .i64 wc (some ⟨w.heap.size, 0, none⟩) k R := N3.below E10
      have M4 : NR .u64 wc (some ⟨w2.heap.size, 0, none⟩) k C := N4.below E10
      clear N3 N4
      obtain ⟨S, S1, S2, e0, e1, e2, hz1, hz2, HCat, HB, HE⟩ := texts R C m k m1 m2 hn hf
      rw [← e0, ← e1, ← e2]
      have hne : (S.toList == (S1 ++ ⟨#[44]⟩ ++ S2).toList) = true := by rw [← HCat.out]; exact beq_self_eq_true _
      have cR : wc.cell? ⟨w.heap.size, m, none⟩ = some (.int .i64 (R m)) := by
        rcases M3 with h | ⟨b, off, e, _, h⟩
        · omega
        · cases e; simpa using h m m2
      have b0 : 0 ≤ R m := hf.r0 m m2
      have b1 : R m ≤ 9223372036854775807 := hf.r1 m m2
      have HFd : Hid (Fits k R C) := hf
      clear e0 e1 e2 hf hfm hfd M3
      go_wp2_with fail
      refine (text_named (R m) _ b0 (by omega)).mono ?_
      rintro e w11 ⟨T, rfl, hT, HT1, hb11⟩
      have B11 : Below w.heap.size w w11 := B10.step hb11
      obtain ⟨r, HP⟩ : ∃ r, Hid (S2.data.toList = (T ++ ⟨#[58]⟩).data.toList ++ r) := HB.out T HT1.out
      clear hne cR b0 b1 HB HCat
      go_wp2_with fail
      refine (prefix_any S2 _ r _ (by omega) HP.out).mono ?_
      rintro e w12 ⟨rfl, hb12⟩
      have B12 : Below w.heap.size w w12 := B11.step hb12
      have M12 := (M4.below hb11).below hb12
      have cC : w12.cell? ⟨w2.heap.size, m - 1, none⟩ = some (.int .u64 (C (m - 1))) := by
        rcases M12 with h | ⟨b, off, e, _, h⟩
        · omega
        · cases e; simpa using h (m - 1) (by omega)
      have b0 : 0 ≤ C (m - 1) := HFd.out.c0 _ (by omega)
      have b1 : C (m - 1) ≤ 18446744073709551615 := HFd.out.c1 _ (by omega)
      have hk1 : (m : Int) - 1 < (k : Int) := by omega
      have hk2 : (0 : Int) ≤ (m : Int) - 1 := by omega
      clear hb11 hb12 M12 M4 HP
      go_wp2_with fail
      refine (text_named (C (m - 1)) _ b0 b1).mono ?_
      rintro e w13 ⟨T', rfl, hT', HT2, hb13⟩
      have B13 : Below w.heap.size w w13 := B12.step hb13
      obtain ⟨r', HQ⟩ : ∃ r, Hid (S1.data.toList = r ++ ((⟨#[58]⟩ : ByteArray) ++ T').data.toList) := HE.out T' HT2.out
      clear hb13 cC b0 b1 HE hk1 hk2
      go_wp2_with fail
      refine (suffix_any S1 _ r' _ (by omega) HQ.out).mono ?_
      rintro e w14 ⟨rfl, hb14⟩
      go_wp2
      go_ret
      exact ⟨rfl, B13.step hb14⟩

end Go.Proofs.Qxb6627996aDoor
