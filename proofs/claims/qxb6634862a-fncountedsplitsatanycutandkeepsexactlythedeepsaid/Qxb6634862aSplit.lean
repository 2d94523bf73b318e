/-
  The walk of FnCountedSplitsAtAnyCutAndKeepsExactlyTheDeep.
-/
import Derived.Test.Qxb6634862aDeep
namespace Go.Proofs.Qxb6634862a
open Go.RowKit Go.BigFrame

theorem nth_take (L : List Ot) (n i : Nat) (h : i < n) : nth (L.take n) i = nth L i := by
  simp [nth, List.getD, h]

theorem nth_drop (L : List Ot) (n i : Nat) : nth (L.drop n) i = nth L (n + i) := by
  simp [nth, List.getD]

theorem nth_left (A B : List Ot) (i : Nat) (h : i < A.length) : nth (A ++ B) i = nth A i := by
  simp [nth, List.getD, List.getElem?_append_left h]

theorem nth_right (A B : List Ot) (i : Nat) : nth (A ++ B) (A.length + i) = nth B i := by
  simp [nth, List.getD, List.getElem?_append_right (Nat.le_add_right A.length i)]

theorem Row.take {M : Nat} {w : World} {a : Option Addr} {L : List Ot} (h : Row M w a L) (n : Nat) (hn : n ≤ L.length) : Row M w a (L.take n) := by
  have hl : (L.take n).length = n := by simp; omega
  refine ⟨fun i hi => ?_, ?_⟩
  · rw [nth_take L n i (by omega)]; exact h.ok i (by omega)
  · rcases h.at_ with h0 | ⟨b, off, rfl, hb, hc⟩
    · exact Or.inl (by omega)
    · exact Or.inr ⟨b, off, rfl, hb, fun i hi => by rw [nth_take L n i (by omega)]; exact hc i (by omega)⟩

theorem Row.drop {M : Nat} {w : World} {a : Option Addr} {L : List Ot} (h : Row M w a L) (n : Nat) (hn : n ≤ L.length) :
    Row M w (if L.length = n then a else a.map (·.add (n * 2))) (L.drop n) := by
  have hl : (L.drop n).length = L.length - n := by simp
  refine ⟨fun i hi => ?_, ?_⟩
  · rw [nth_drop]; exact h.ok (n + i) (by omega)
  · by_cases e : L.length = n
    · exact Or.inl (by omega)
    · rw [if_neg e]
      rcases h.at_ with h0 | ⟨b, off, rfl, hb, hc⟩
      · exact Or.inl (by omega)
      · refine Or.inr ⟨b, off + n * 2, by simp [Go.WideShapes.add_plain], hb, fun i hi => ?_⟩
        rw [nth_drop, show off + n * 2 + i * 2 = off + (n + i) * 2 by omega]
        exact hc (n + i) (by omega)

theorem counted_len (M c n : Nat) (a : Option Addr) (L G : List Ot) (tip d : Int) (w : World) (hl : L.length = n) (hG : fil L tip d = G) (h : Row M w a L) (hn : n ≤ 65536) (d0 : 0 ≤ d) (t1 : tip ≤ 18446744073709551615) :
    Calls Try.prog 7 #[.slice a n c, .int .u64 tip, .int .u64 d] w fun e w' => ∃ a' c', e = .returned (.slice a' G.length c') ∧ Row M w' a' G ∧ Below w.heap.size w w' := by
  subst hl hG
  exact counted_any M c a L tip d w h hn d0 t1

theorem fil_append (A B : List Ot) (tip d : Int) : fil (A ++ B) tip d = fil A tip d ++ fil B tip d := List.filter_append ..

set_option maxHeartbeats 1000000 in
theorem split_walk (c : Nat) (a : Option Addr) (L : List Ot) (tip d k : Int) (w : World) (h : Row 9223372036854775807 w a L) (hn : L.length ≤ 9223372036854775807) (hcn : a = none → c = 0)
    (t0 : 0 ≤ tip) (t1 : tip ≤ 18446744073709551615) (e0 : 0 ≤ d) :
    Calls Try.prog 3 #[.slice a L.length c, .int .u64 tip, .int .u64 d, .int .i64 k] w fun e w' => e = .returned (.bool true) ∧ Below w.heap.size w w' := by
  have HCN : Hid (a = none → c = 0) := hcn
  clear hcn
  go_enter Try.func3, Try.ntmps3
  go_wp2_with (go_at_call 5; refine (zzBytes5 a c L _ _ _ _ h hn).mono ?_; rintro e w' ⟨r, rfl, rfl, hr⟩)
  · go_ret
    exact ⟨rfl, Below.refl _ _⟩
  · go_ret
    exact ⟨rfl, Below.refl _ _⟩
  · have hr0 : (!r) = false := by assumption
    have hlen : (L.length : Int) ≤ 65536 := by assumption
    have hr1 : r = true := by simpa using hr0
    subst hr1
    have h' := h.tight (hr rfl)
    clear hr hr0 h hn
    go_loop [9, 10] (fun z i => ∃ k s : Nat, k ≤ L.length ∧ s ≤ 1048576 ∧ i = .int .i64 k ∧ z = .int .i64 s) (fun _ i => L.length - (intOf i).toNat)
    case atStart => exact ⟨0, 8 * L.length, Nat.zero_le _, by omega, rfl, by go_num⟩
    case round =>
      obtain ⟨j, s, hkn, hs, rfl, rfl⟩ := hrel
      by_cases hlt : j < L.length
      · rcases h'.at_ with h0 | ⟨b, off, ea, hb, hc⟩
        · exact absurd h0 (by omega)
        subst ea
        have c2 := (hc j hlt).2
        have hln := (h'.ok j hlt).len
        clear hc
        go_wp2
        · go_ret
          exact ⟨rfl, Below.refl _ _⟩
        · have h2 : (s : Int) + ((nth L j).l : Int) ≤ 1048576 := by assumption
          go_round
          case rel => exact ⟨j + 1, s + (nth L j).l, by omega, by omega, by go_num, by go_num⟩
          case measure => simp [intOf]; omega
      · by_cases hk : k < 0 ∨ (L.length : Int) < k
        · rcases hk with hk | hk
          · go_wp2
            go_ret
            exact ⟨rfl, Below.refl _ _⟩
          · have hk0 : ¬ k < 0 := by omega
            go_wp2
            go_ret
            exact ⟨rfl, Below.refl _ _⟩
        · obtain ⟨n, rfl⟩ : ∃ n : Nat, k = n := ⟨k.toNat, by omega⟩
          have hnL : n ≤ L.length := by omega
          have hL : L.length ≤ 65536 := by omega
          have hF : ∀ d, (fil L tip d).length ≤ 65536 := fun d => Nat.le_trans (fil_le L tip d) hL
          clear hlen hk
          obtain ⟨A, hA⟩ : ∃ A, fil (L.take n) tip d = A := ⟨_, rfl⟩
          obtain ⟨B, hB⟩ : ∃ B, fil (L.drop n) tip d = B := ⟨_, rfl⟩
          obtain ⟨G, hG⟩ : ∃ G, fil L tip d = G := ⟨_, rfl⟩
          have HGG : Hid (G = A ++ B) := by
            show G = A ++ B
            rw [← hA, ← hB, ← hG, ← fil_append, List.take_append_drop]
          have HA : Hid (fil (L.take n) tip d = A) := hA
          have HB : Hid (fil (L.drop n) tip d = B) := hB
          have HG : Hid (fil L tip d = G) := hG
          have lG : G.length = A.length + B.length := by rw [HGG.out, List.length_append]
          have LG : Hid (G.length = A.length + B.length) := lG
          have hGL : G.length ≤ 65536 := by rw [← hG]; exact hF d
          have hAL : A.length ≤ G.length := by omega
          have hBL : B.length ≤ G.length := by omega
          clear hF hA hB hG lG
          go_wp2_with fail
          refine (toAnchor_any 1048576 c a L w h' hL HCN.out).mono ?_
          rintro e w1 ⟨a1, rfl, r1, b1⟩
          go_wp2_with fail
          refine (counted_len 1048576 _ _ _ L G tip _ _ rfl HG.out r1 hL e0 t1).mono ?_
          rintro e w2 ⟨a2, c2, rfl, r2, b2⟩
          go_wp2_with fail
          refine (counted_len 1048576 _ n _ (L.take n) A tip _ _ (by simp; omega) HA.out ((r1.below b2).take n hnL) (by omega) e0 t1).mono ?_
          rintro e w3 ⟨a3, c3, rfl, r3, b3⟩
          obtain ⟨x, m, hx⟩ : ∃ x m, (n < L.length ∧ a1.map (fun y => y.add (n * 2)) = x ∧ L.length - n = m ∨ n = L.length ∧ a1 = x ∧ 0 = m) ∧ Row 1048576 w3 x (L.drop n) ∧ m = (L.drop n).length := by
            have hr := ((r1.below b2).below b3).drop n hnL
            rcases Nat.lt_or_eq_of_le hnL with e | e
            · rw [if_neg (by omega)] at hr
              exact ⟨_, _, Or.inl ⟨e, rfl, rfl⟩, hr, by simp⟩
            · rw [if_pos e.symm] at hr
              exact ⟨_, _, Or.inr ⟨e, rfl, rfl⟩, hr, by simp; omega⟩
          obtain ⟨hx1, hx2, hx3⟩ := hx
          have C4 := counted_len 1048576 m m x (L.drop n) B tip d w3 hx3.symm HB.out hx2 (by simp at hx3; omega) e0 t1
          clear hx2 hx3
          rcases hx1 with ⟨hn', rfl, rfl⟩ | ⟨hn', rfl, rfl⟩
          case' inl =>
            have hne : ¬ L.length = n := by omega
            go_wp2_with fail
            refine C4.mono ?_
            clear C4 hne hn'
            rintro e w4 ⟨a4, c4, rfl, r4, b4⟩
          case' inr =>
            subst hn'
            go_wp2_with fail
            refine C4.mono ?_
            clear C4
            rintro e w4 ⟨a4, c4, rfl, r4, b4⟩
          all_goals
            have hB4 : Below w.heap.size w w4 := ((b1.step b2).step b3).step b4
            have rI := ((r1.below b2).below b3).below b4
            have rG := (r2.below b3).below b4
            have rA := r3.below b4
            clear r1 r2 r3 b1 b2 b3 b4 h' HCN HA HB
            have hne2 : ((G.length : Int) != (A.length : Int) + (B.length : Int)) = false := by rw [LG.out]; simp
            go_wp2
            clear hne2
            go_loopw [15] (fun i wr => ∃ k : Nat, k ≤ A.length ∧ i = .int .i64 k ∧ Below w4.heap.size w4 wr) (fun i _ => A.length - (intOf i).toNat)
            case atStart => exact ⟨0, Nat.zero_le _, rfl, Below.refl _ _⟩
            case round =>
              obtain ⟨k, hk, rfl, hb⟩ := hrel
              by_cases hlt2 : k < A.length
              · rcases rG.at_ with g0 | ⟨gb, goff, ea, hgb, gc⟩
                · exact absurd g0 (by omega)
                subst ea
                rcases rA.at_ with g0 | ⟨ab, aoff, ea, hab, ac⟩
                · exact absurd g0 (by omega)
                subst ea
                have eN : nth G k = nth A k := by rw [HGG.out, nth_left A B k hlt2]
                have gk := gc k (by omega)
                rw [eN] at gk
                have g1 := fun p => blw_cell ((hb.cell (p := ⟨gb, goff + k * 2, none⟩) (by exact hgb)).trans gk.1) p
                have g2 := fun p => blw_cell ((hb.cell (p := ⟨gb, goff + k * 2 + 1, none⟩) (by exact hgb)).trans gk.2) p
                have c1 := fun p => blw_cell ((hb.cell (p := ⟨ab, aoff + k * 2, none⟩) (by exact hab)).trans (ac k hlt2).1) p
                have c2 := fun p => blw_cell ((hb.cell (p := ⟨ab, aoff + k * 2 + 1, none⟩) (by exact hab)).trans (ac k hlt2).2) p
                have o1 := (rA.ok k hlt2).below hb
                have hkm' : (k : Int) < (A.length : Int) := by omega
                have hkg' : (k : Int) < (G.length : Int) := by omega
                have hRg : Nonempty Rg := ⟨⟨0, #[]⟩⟩
                have he := eqO_refl (nth A k).h (nth A k).l (nth A k).z
                clear eN gk gc ac
                go_wp2
                refine region_blw (by kernel_rfl) (by kernel_rfl) ?_
                repeat (go_big_quiet_step ((go_at_call 8; exact blw_calls (sameOutput_any _ _ _ _ _ _ _ _ _ _ _ o1.len o1.len (o1.rd.below (blw_below _ _)) (o1.rd.below (blw_below _ _))))))
                refine wpQuiet_nil ?_
                intro _ hw'
                obtain ⟨p, hw''⟩ := hw'
                subst hw''
                have hB2 : Below w4.heap.size w4 (blw wr p) := hb.step (blw_below wr p)
                clear g1 g2 c1 c2
                go_wp2
                go_roundw
                case rel => exact ⟨k + 1, by omega, by go_num, hB2⟩
                case measure => simp [intOf]; omega
              · go_wp2
                obtain ⟨wo, rfl⟩ : ∃ wo : World, wo = wr := ⟨_, rfl⟩
                go_loopw [16] (fun i wr => ∃ k : Nat, k ≤ B.length ∧ i = .int .i64 k ∧ Below w4.heap.size w4 wr) (fun i _ => B.length - (intOf i).toNat)
                case atStart => exact ⟨0, Nat.zero_le _, rfl, hb⟩
                case round =>
                  clear hb
                  obtain ⟨i, hi, rfl, hb⟩ := hrel
                  by_cases hlt3 : i < B.length
                  · rcases rG.at_ with g0 | ⟨gb, goff, ea, hgb, gc⟩
                    · exact absurd g0 (by omega)
                    subst ea
                    rcases r4.at_ with g0 | ⟨ab, aoff, ea, hab, ac⟩
                    · exact absurd g0 (by omega)
                    subst ea
                    have eN : nth G (A.length + i) = nth B i := by rw [HGG.out, nth_right A B i]
                    have hGi : A.length + i < G.length := by rw [LG.out]; omega
                    have gk := gc (A.length + i) hGi
                    rw [eN] at gk
                    have g1 := fun p => blw_cell ((hb.cell (p := ⟨gb, goff + (A.length + i) * 2, none⟩) (by exact hgb)).trans gk.1) p
                    have g2 := fun p => blw_cell ((hb.cell (p := ⟨gb, goff + (A.length + i) * 2 + 1, none⟩) (by exact hgb)).trans gk.2) p
                    have c1 := fun p => blw_cell ((hb.cell (p := ⟨ab, aoff + i * 2, none⟩) (by exact hab)).trans (ac i hlt3).1) p
                    have c2 := fun p => blw_cell ((hb.cell (p := ⟨ab, aoff + i * 2 + 1, none⟩) (by exact hab)).trans (ac i hlt3).2) p
                    have o1 := (r4.ok i hlt3).below hb
                    have hkm' : (i : Int) < (B.length : Int) := by omega
                    have hkg' : (A.length : Int) + (i : Int) < (G.length : Int) := by omega
                    have hRg : Nonempty Rg := ⟨⟨0, #[]⟩⟩
                    have he := eqO_refl (nth B i).h (nth B i).l (nth B i).z
                    clear eN gk gc ac
                    go_wp2
                    refine region_blw (by kernel_rfl) (by kernel_rfl) ?_
                    repeat (go_big_quiet_step ((go_at_call 8; exact blw_calls (sameOutput_any _ _ _ _ _ _ _ _ _ _ _ o1.len o1.len (o1.rd.below (blw_below _ _)) (o1.rd.below (blw_below _ _))))))
                    refine wpQuiet_nil ?_
                    intro _ hw'
                    obtain ⟨p, hw''⟩ := hw'
                    subst hw''
                    have hB2 : Below w4.heap.size w4 (blw wr p) := hb.step (blw_below wr p)
                    clear g1 g2 c1 c2
                    go_wp2
                    go_roundw
                    case rel => exact ⟨i + 1, by omega, by go_num, hB2⟩
                    case measure => simp [intOf]; omega
                  · go_wp2_with fail
                    have D := deep_any L.length c2 _ _ L tip d _ (rI.below hb) (by rw [HG.out]; exact rG.below hb) hL t0 t1
                    rw [HG.out] at D
                    refine D.mono ?_
                    clear D
                    rintro e w6 ⟨rfl, b6⟩
                    go_wp2
                    go_ret
                    exact ⟨rfl, (hB4.step hb).step b6⟩

end Go.Proofs.Qxb6634862a
