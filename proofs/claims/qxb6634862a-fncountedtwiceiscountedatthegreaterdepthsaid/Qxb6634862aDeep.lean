/-
  isTheDeepSubsequence, at the list that Counted gives.
-/
import Derived.Test.Qxb6634862aCount
namespace Go.Proofs.Qxb6634862a
open Go.RowKit Go.BigFrame

/-- From the i-th deep output on: there is a place p, not before j, behind which the rest of G is what is deep. -/
def Rest (L G : List Ot) (tip d : Int) (i j : Nat) : Prop := ∃ p, j ≤ p ∧ p ≤ L.length ∧ G.drop i = (L.drop p).filter fun o => deep o.h tip d

theorem rest_start (L : List Ot) (tip d : Int) : Rest L (L.filter fun o => deep o.h tip d) tip d 0 0 := ⟨0, Nat.le_refl _, Nat.zero_le _, by simp⟩

theorem filter_find (p : Ot → Bool) : ∀ (L : List Ot) (x : Ot) (r : List Ot), L.filter p = x :: r → ∃ q, q < L.length ∧ nth L q = x ∧ r = (L.drop (q + 1)).filter p ∧ p x = true
  | [], x, r, h => by simp at h
  | o :: L, x, r, h => by
    by_cases ho : p o = true
    · rw [List.filter_cons_of_pos ho] at h
      injection h with h1 h2
      subst h1
      exact ⟨0, by simp, rfl, by simp [h2], ho⟩
    · rw [List.filter_cons_of_neg ho] at h
      obtain ⟨q, hq, hx, hr, hp⟩ := filter_find p L x r h
      exact ⟨q + 1, by simp; omega, hx, by simpa using hr, hp⟩

theorem rest_next {L G : List Ot} {tip d : Int} {i j : Nat} (h : Rest L G tip d i j) (hi : i < G.length) :
    ∃ q, j ≤ q ∧ q < L.length ∧ nth L q = nth G i ∧ deep (nth G i).h tip d = true ∧ ∀ j', j' ≤ q + 1 → Rest L G tip d (i + 1) j' := by
  obtain ⟨p, hjp, hpL, hd⟩ := h
  have e : G.drop i = nth G i :: G.drop (i + 1) := by
    rw [List.drop_eq_getElem_cons hi]
    simp [nth, List.getD, hi]
  rw [e] at hd
  obtain ⟨q, hq, hx, hr, hp⟩ := filter_find _ _ _ _ hd.symm
  have hq' : q < L.length - p := by simpa using hq
  refine ⟨p + q, by omega, by omega, ?_, hp, fun j' hj' => ⟨p + q + 1, hj', by omega, ?_⟩⟩
  · rw [← hx]
    simp [nth, List.getD]
  · rw [hr, List.drop_drop]
    congr 1

set_option maxHeartbeats 400000 in
theorem deep_walk (b off n c gb goff m gc : Nat) (L G : List Ot) (tip d : Int) (w : World) (hnL : n = L.length) (hmG : m = G.length) (hm : m = (kept L tip d n).length) (hm0 : 0 < m) (hn : n ≤ 65536)
    (hb0 : b < w.heap.size) (hgb : gb < w.heap.size) (t0 : 0 ≤ tip) (t1 : tip ≤ 18446744073709551615)
    (hok : ∀ i, i < n → (nth L i).ok 1048576 w) (gok : ∀ i, i < m → (nth G i).ok 1048576 w) (hR : Rest L G tip d 0 0)
    (hc : ∀ i, i < n → w.cell? ⟨b, off + i * 2, none⟩ = some (.int .u64 (nth L i).h) ∧ w.cell? ⟨b, off + i * 2 + 1, none⟩ = some (.slice (nth L i).a (nth L i).l (nth L i).c))
    (hg : ∀ i, i < m → w.cell? ⟨gb, goff + i * 2, none⟩ = some (.int .u64 (nth G i).h) ∧ w.cell? ⟨gb, goff + i * 2 + 1, none⟩ = some (.slice (nth G i).a (nth G i).l (nth G i).c)) :
    Calls Try.prog 9 #[.slice (some ⟨gb, goff, none⟩) m gc, .slice (some ⟨b, off, none⟩) n c, .int .u64 tip, .int .u64 d] w fun e w' => e = .returned (.bool true) ∧ Below w.heap.size w w' := by
  have HN : Hid (n = L.length) := hnL
  have HG : Hid (m = G.length) := hmG
  have HM : Hid (m = (kept L tip d n).length) := hm
  have HR : Hid (Rest L G tip d 0 0) := hR
  have hmn : m ≤ n := by rw [hm]; exact kept_le _ _ _ _
  clear hnL hmG hm hR
  go_enter Try.func9, Try.ntmps9
  go_wp2
  go_loop [9, 10] (fun z i => ∃ k : Nat, k ≤ n ∧ i = .int .i64 k ∧ z = .int .i64 (kept L tip d k).length) (fun _ i => n - (intOf i).toNat)
  case atStart => exact ⟨0, Nat.zero_le _, rfl, rfl⟩
  case round =>
    obtain ⟨k, hk, rfl, rfl⟩ := hrel
    have hkl := kept_le L tip d k
    by_cases hlt : k < n
    · have c1 := (hc k hlt).1
      have ho := hok k hlt
      have h0 := ho.lo
      have h1 := ho.hi
      cases hD : deep (nth L k).h tip d with
      | true =>
        have HD : Hid (deep (nth L k).h tip d = true) := hD
        go_wp2_with (go_at_call 13; refine (deepEnough_any _ _ _ _ h0 h1 t0 t1).mono ?_; rintro e w' ⟨rfl, rfl⟩)
        go_round
        case rel => exact ⟨k + 1, by omega, by go_num, by rw [kept_yes L tip d k (by rw [← HN.out]; exact hlt) HD.out, List.length_append]; go_num⟩
        case measure => simp [intOf]; omega
      | false =>
        have HD : Hid (deep (nth L k).h tip d = false) := hD
        go_wp2_with (go_at_call 13; refine (deepEnough_any _ _ _ _ h0 h1 t0 t1).mono ?_; rintro e w' ⟨rfl, rfl⟩)
        go_round
        case rel => exact ⟨k + 1, by omega, by go_num, by rw [kept_no L tip d k (by rw [← HN.out]; exact hlt) HD.out]⟩
        case measure => simp [intOf]; omega
    · have hkn : n = k := by omega
      subst hkn
      clear hk hlt
      have hmm : ((m : Int) != ((kept L tip d n).length : Int)) = false := by rw [← HM.out]; simp
      go_wp2
      clear hmm HM
      go_loopw [11, 12] (fun z i wr => ∃ k j : Nat, k ≤ m ∧ j ≤ n ∧ i = .int .i64 k ∧ z = .int .i64 j ∧ Hid (Rest L G tip d k j) ∧ Below w.heap.size w wr) (fun _ i _ => m - (intOf i).toNat)
      case atStart => exact ⟨0, 0, Nat.zero_le _, Nat.zero_le _, rfl, rfl, HR, Below.refl _ _⟩
      case round =>
        obtain ⟨k, j, hk, hj, rfl, rfl, HRk, hb⟩ := hrel
        by_cases hlt : k < m
        · have g1 := (hb.cell (p := ⟨gb, goff + k * 2, none⟩) (by exact hgb)).trans (hg k hlt).1
          have ho := gok k hlt
          have h0 := ho.lo
          have h1 := ho.hi
          obtain ⟨q, hjq, hqL, hqx, hD, hnext⟩ := rest_next HRk.out (by rw [← HG.out]; exact hlt)
          have HQ : Hid (nth L q = nth G k) := hqx
          have hqn : q < n := by rw [HN.out]; exact hqL
          have HX : Hid (∀ j', j' ≤ q + 1 → Rest L G tip d (k + 1) j') := hnext
          clear hqx hqL hnext HRk
          go_wp2_with (go_at_call 13; refine (deepEnough_any _ _ _ _ h0 h1 t0 t1).mono ?_; rintro e w' ⟨rfl, rfl⟩)
          clear hD
          obtain ⟨wo, rfl⟩ : ∃ wo : World, wo = wr := ⟨_, rfl⟩
          go_loopw [11] (fun z wr => ∃ j : Nat, j ≤ q ∧ z = .int .i64 j ∧ Below w.heap.size w wr) (fun z _ => q - (intOf z).toNat)
          case atStart => exact ⟨j, hjq, rfl, hb⟩
          case round =>
            obtain ⟨i, hi, rfl, hbr⟩ := hrel
            clear hb g1
            have hin : i < n := by omega
            have g1 := fun p => blw_cell ((hbr.cell (p := ⟨gb, goff + k * 2, none⟩) (by exact hgb)).trans (hg k hlt).1) p
            have g2 := fun p => blw_cell ((hbr.cell (p := ⟨gb, goff + k * 2 + 1, none⟩) (by exact hgb)).trans (hg k hlt).2) p
            have c1 := fun p => blw_cell ((hbr.cell (p := ⟨b, off + i * 2, none⟩) (by exact hb0)).trans (hc i hin).1) p
            have c2 := fun p => blw_cell ((hbr.cell (p := ⟨b, off + i * 2 + 1, none⟩) (by exact hb0)).trans (hc i hin).2) p
            have o1 := (hok i hin).below hbr
            have o2 := ho.below hbr
            have hin' : (i : Int) < (n : Int) := by omega
            have hkm' : (k : Int) < (m : Int) := by omega
            have hRg : Nonempty Rg := ⟨⟨0, #[]⟩⟩
            go_wp2
            refine region_blw (by kernel_rfl) (by kernel_rfl) ?_
            repeat (go_big_quiet_step ((go_at_call 8; exact blw_calls (sameOutput_any _ _ _ _ _ _ _ _ _ _ _ o1.len o2.len (o1.rd.below (blw_below _ _)) (o2.rd.below (blw_below _ _))))))
            refine wpQuiet_nil ?_
            intro _ hw'
            obtain ⟨p, hw''⟩ := hw'
            subst hw''
            have hB2 : Below w.heap.size w (blw wr p) := hbr.trans ((blw_below wr p).mono hbr.size)
            have HE : Hid (i = q → eqO (nth L i).h (nth G k).h (nth L i).l (nth G k).l (nth L i).z (nth G k).z = true) := fun e => by rw [e, HQ.out]; exact eqO_refl _ _ _
            clear g1 g2 c1 c2
            cases hr : eqO (nth L i).h (nth G k).h (nth L i).l (nth G k).l (nth L i).z (nth G k).z with
            | false =>
              have hne : i ≠ q := fun e => by have := HE.out e; rw [hr] at this; exact absurd this (by simp)
              go_wp2
              go_roundw
              case rel => exact ⟨i + 1, by omega, by go_num, hB2⟩
              case measure => simp [intOf]; omega
            | true =>
              go_wp2
              go_roundw
              case rel => exact ⟨k + 1, i + 1, by omega, by omega, by go_num, by go_num, HX.out _ (by omega), hB2⟩
              case measure => simp [intOf]; omega
        · go_wp2
          go_ret
          exact ⟨rfl, hb⟩

set_option maxHeartbeats 400000 in
theorem deep_none (a : Option Addr) (ga : Option Addr) (c gc : Nat) (tip d : Int) (w : World) :
    Calls Try.prog 9 #[.slice ga 0 gc, .slice a 0 c, .int .u64 tip, .int .u64 d] w fun e w' => e = .returned (.bool true) ∧ w' = w := by
  go_enter Try.func9, Try.ntmps9
  go_wp2
  refine wp_loop_rounds 1 ?_
  rw [rounds_succ]
  go_wp2
  refine wp_loop_rounds 1 ?_
  rw [rounds_succ]
  go_wp2
  go_ret
  exact ⟨rfl, rfl⟩

set_option maxHeartbeats 400000 in
theorem deep_zero (b off n c gc : Nat) (ga : Option Addr) (L : List Ot) (tip d : Int) (w : World) (hnL : n = L.length) (hm : 0 = (kept L tip d n).length) (hn : n ≤ 65536)
    (t0 : 0 ≤ tip) (t1 : tip ≤ 18446744073709551615) (hok : ∀ i, i < n → (nth L i).ok 1048576 w)
    (hc : ∀ i, i < n → w.cell? ⟨b, off + i * 2, none⟩ = some (.int .u64 (nth L i).h) ∧ w.cell? ⟨b, off + i * 2 + 1, none⟩ = some (.slice (nth L i).a (nth L i).l (nth L i).c)) :
    Calls Try.prog 9 #[.slice ga 0 gc, .slice (some ⟨b, off, none⟩) n c, .int .u64 tip, .int .u64 d] w fun e w' => e = .returned (.bool true) ∧ w' = w := by
  have HN : Hid (n = L.length) := hnL
  have HM : Hid (0 = (kept L tip d n).length) := hm
  clear hnL hm
  go_enter Try.func9, Try.ntmps9
  go_wp2
  go_loop [9, 10] (fun z i => ∃ k : Nat, k ≤ n ∧ i = .int .i64 k ∧ z = .int .i64 (kept L tip d k).length) (fun _ i => n - (intOf i).toNat)
  case atStart => exact ⟨0, Nat.zero_le _, rfl, rfl⟩
  case round =>
    obtain ⟨k, hk, rfl, rfl⟩ := hrel
    have hkl := kept_le L tip d k
    by_cases hlt : k < n
    · have c1 := (hc k hlt).1
      have ho := hok k hlt
      have h0 := ho.lo
      have h1 := ho.hi
      cases hD : deep (nth L k).h tip d with
      | true =>
        have HD : Hid (deep (nth L k).h tip d = true) := hD
        go_wp2_with (go_at_call 13; refine (deepEnough_any _ _ _ _ h0 h1 t0 t1).mono ?_; rintro e w' ⟨rfl, rfl⟩)
        go_round
        case rel => exact ⟨k + 1, by omega, by go_num, by rw [kept_yes L tip d k (by rw [← HN.out]; exact hlt) HD.out, List.length_append]; go_num⟩
        case measure => simp [intOf]; omega
      | false =>
        have HD : Hid (deep (nth L k).h tip d = false) := hD
        go_wp2_with (go_at_call 13; refine (deepEnough_any _ _ _ _ h0 h1 t0 t1).mono ?_; rintro e w' ⟨rfl, rfl⟩)
        go_round
        case rel => exact ⟨k + 1, by omega, by go_num, by rw [kept_no L tip d k (by rw [← HN.out]; exact hlt) HD.out]⟩
        case measure => simp [intOf]; omega
    · have hkn : n = k := by omega
      subst hkn
      clear hk hlt
      have hmm : ((0 : Int) != ((kept L tip d n).length : Int)) = false := by rw [← HM.out]; simp
      go_wp2
      refine wp_loop_rounds 1 ?_
      rw [rounds_succ]
      go_wp2
      go_ret
      exact ⟨rfl, rfl⟩

theorem deep_any (c gc : Nat) (a ga : Option Addr) (L : List Ot) (tip d : Int) (w : World) (h : Row 1048576 w a L) (hg : Row 1048576 w ga (fil L tip d)) (hn : L.length ≤ 65536)
    (t0 : 0 ≤ tip) (t1 : tip ≤ 18446744073709551615) :
    Calls Try.prog 9 #[.slice ga (fil L tip d).length gc, .slice a L.length c, .int .u64 tip, .int .u64 d] w fun e w' => e = .returned (.bool true) ∧ Below w.heap.size w w' := by
  have e : kept L tip d L.length = fil L tip d := by unfold kept fil; rw [List.take_length]
  rcases hg.at_ with g0 | ⟨gb, goff, rfl, hgb, hgc⟩
  · rw [g0]
    rcases h.at_ with h0 | ⟨b, off, rfl, hb, hcell⟩
    · rw [h0]
      exact (deep_none a ga c gc tip d w).mono fun e w' ⟨he, hw⟩ => ⟨he, hw ▸ Below.refl _ _⟩
    · exact (deep_zero b off L.length c gc ga L tip d w rfl (by rw [e, g0]) hn t0 t1 h.ok hcell).mono fun e w' ⟨he, hw⟩ => ⟨he, hw ▸ Below.refl _ _⟩
  · by_cases g0 : (fil L tip d).length = 0
    · rw [g0]
      rcases h.at_ with h0 | ⟨b, off, rfl, hb, hcell⟩
      · rw [h0]
        exact (deep_none a _ c gc tip d w).mono fun e w' ⟨he, hw⟩ => ⟨he, hw ▸ Below.refl _ _⟩
      · exact (deep_zero b off L.length c gc _ L tip d w rfl (by rw [e, g0]) hn t0 t1 h.ok hcell).mono fun e w' ⟨he, hw⟩ => ⟨he, hw ▸ Below.refl _ _⟩
    · rcases h.at_ with h0 | ⟨b, off, rfl, hb, hcell⟩
      · exact absurd (Nat.le_antisymm (Nat.le_trans (fil_le _ _ _) (Nat.le_of_eq h0)) (Nat.zero_le _)) g0
      · exact deep_walk b off L.length c gb goff _ gc L _ tip d w rfl rfl (by rw [e]) (by omega) hn hb hgb t0 t1 h.ok hg.ok (rest_start L tip d) hcell hgc

end Go.Proofs.Qxb6634862a
