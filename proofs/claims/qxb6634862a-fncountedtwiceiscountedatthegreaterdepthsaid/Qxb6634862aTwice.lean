/-
  The walk of FnCountedTwiceIsCountedAtTheGreaterDepth.
-/
import Derived.Test.Qxb6634862aDeep
import Derived.Test.Qxb6634862aSame
namespace Go.Proofs.Qxb6634862a
open Go.RowKit

def maxI (a b : Int) : Int := if a < b then b else a

theorem fil_fil (L : List Ot) (tip d1 d2 : Int) : fil (fil L tip d1) tip d2 = fil L tip (maxI d1 d2) := by
  unfold fil
  rw [List.filter_filter]
  congr 1
  funext o
  unfold deep maxI
  rw [Bool.eq_iff_iff]
  simp
  split <;> omega

set_option maxHeartbeats 1000000 in
theorem twice_walk (c : Nat) (a : Option Addr) (L : List Ot) (tip d1 d2 : Int) (w : World) (h : Row 9223372036854775807 w a L) (hn : L.length ≤ 9223372036854775807) (hcn : a = none → c = 0)
    (t0 : 0 ≤ tip) (t1 : tip ≤ 18446744073709551615) (e0 : 0 ≤ d1) (f0 : 0 ≤ d2) :
    Calls Try.prog 4 #[.slice a L.length c, .int .u64 tip, .int .u64 d1, .int .u64 d2] w fun e w' => e = .returned (.bool true) ∧ Below w.heap.size w w' := by
  have HCN : Hid (a = none → c = 0) := hcn
  clear hcn
  go_enter Try.func4, Try.ntmps4
  go_wp2_with (go_at_call 10; refine (zzBytes10 a c L _ _ _ _ h hn).mono ?_; rintro e w' ⟨r, rfl, rfl, hr⟩)
  · go_ret
    exact ⟨rfl, Below.refl _ _⟩
  · go_ret
    exact ⟨rfl, Below.refl _ _⟩
  · have hr0 : (!r) = false := by assumption
    have hlen : (L.length : Int) ≤ 65536 := by assumption
    have hr1 : r = true := by simpa using hr0
    subst hr1
    have h' := h.tight (hr rfl)
    clear hr hr0 h hn
    go_loop [9, 10] (fun z i => ∃ k s : Nat, k ≤ L.length ∧ s ≤ 1048576 ∧ i = .int .i64 k ∧ z = .int .i64 s) (fun _ i => L.length - (intOf i).toNat)
    case atStart => exact ⟨0, 8 * L.length, Nat.zero_le _, by omega, rfl, by go_num⟩
    case round =>
      obtain ⟨k, s, hkn, hs, rfl, rfl⟩ := hrel
      by_cases hlt : k < L.length
      · rcases h'.at_ with h0 | ⟨b, off, ea, hb, hc⟩
        · exact absurd h0 (by omega)
        subst ea
        have c2 := (hc k hlt).2
        have hln := (h'.ok k hlt).len
        clear hc
        go_wp2
        · go_ret
          exact ⟨rfl, Below.refl _ _⟩
        · have h2 : (s : Int) + ((nth L k).l : Int) ≤ 1048576 := by assumption
          go_round
          case rel => exact ⟨k + 1, s + (nth L k).l, by omega, by omega, by go_num, by go_num⟩
          case measure => simp [intOf]; omega
      · obtain ⟨m, hm, m0, HM⟩ : ∃ m, (d1 < d2 ∧ d2 = m ∨ ¬ d1 < d2 ∧ d1 = m) ∧ 0 ≤ m ∧ Hid (fil (fil L tip d1) tip d2 = fil L tip m) := by
          refine ⟨maxI d1 d2, ?_, ?_, fil_fil L tip d1 d2⟩
          · unfold maxI; split <;> simp_all
          · unfold maxI; split <;> omega
        have hL : L.length ≤ 65536 := by omega
        have hF : ∀ d, (fil L tip d).length ≤ 65536 := fun d => Nat.le_trans (fil_le L tip d) hL
        clear hlen
        rcases hm with ⟨hd, rfl⟩ | ⟨hd, rfl⟩
        all_goals
          go_wp2_with fail
          refine (toAnchor_any 1048576 c a L w h' hL HCN.out).mono ?_
          rintro e w1 ⟨a1, rfl, r1, b1⟩
          go_wp2_with fail
          refine (counted_any 1048576 _ _ L tip _ _ r1 hL e0 t1).mono ?_
          rintro e w2 ⟨a2, c2, rfl, r2, b2⟩
          go_wp2_with fail
          have C3 := counted_any 1048576 c2 _ (fil L tip d1) tip d2 _ r2 (hF _) f0 t1
          rw [HM.out] at C3
          refine C3.mono ?_
          clear C3
          rintro e w3 ⟨a3, c3, rfl, r3, b3⟩
          go_wp2_with fail
          refine (counted_any 1048576 _ _ L tip _ _ ((r1.below b2).below b3) hL m0 t1).mono ?_
          rintro e w4 ⟨a4, c4, rfl, r4, b4⟩
          go_wp2_with fail
          refine (sameOutputs_any _ _ _ _ _ _ (r3.below b4) r4 (hF _)).mono ?_
          rintro e w5 ⟨rfl, b5⟩
          go_wp2_with fail
          refine (deep_any _ _ _ _ L tip _ _ ((((r1.below b2).below b3).below b4).below b5) (r4.below b5) hL t0 t1).mono ?_
          rintro e w6 ⟨rfl, b6⟩
          go_wp2
          go_ret
          exact ⟨rfl, (((((b1.step b2).step b3).step b4).step b5).step b6)⟩

end Go.Proofs.Qxb6634862a
