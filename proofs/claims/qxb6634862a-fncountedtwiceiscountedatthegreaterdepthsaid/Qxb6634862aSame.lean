/-
  sameOutputs at two rows of the same outputs; zzBytes of the second law.
-/
import Derived.Test.Qxb6634862aCount
namespace Go.Proofs.Qxb6634862a
open Go.RowKit Go.BigFrame

set_option maxHeartbeats 400000 in
theorem sameOutputs_none (a a' : Option Addr) (c c' : Nat) (w : World) :
    Calls Try.prog 11 #[.slice a 0 c, .slice a' 0 c'] w fun e w' => e = .returned (.bool true) ∧ w' = w := by
  go_enter Try.func11, Try.ntmps11
  go_wp2
  refine wp_loop_rounds 1 ?_
  rw [rounds_succ]
  go_wp2
  go_ret
  exact ⟨rfl, rfl⟩

set_option maxHeartbeats 400000 in
theorem sameOutputs_walk (b off b' off' n c c' : Nat) (L : List Ot) (w : World) (hn : n ≤ 65536) (hb0 : b < w.heap.size) (hb1 : b' < w.heap.size) (hok : ∀ i, i < n → (nth L i).ok 1048576 w)
    (hc : ∀ i, i < n → w.cell? ⟨b, off + i * 2, none⟩ = some (.int .u64 (nth L i).h) ∧ w.cell? ⟨b, off + i * 2 + 1, none⟩ = some (.slice (nth L i).a (nth L i).l (nth L i).c))
    (hc' : ∀ i, i < n → w.cell? ⟨b', off' + i * 2, none⟩ = some (.int .u64 (nth L i).h) ∧ w.cell? ⟨b', off' + i * 2 + 1, none⟩ = some (.slice (nth L i).a (nth L i).l (nth L i).c)) :
    Calls Try.prog 11 #[.slice (some ⟨b, off, none⟩) n c, .slice (some ⟨b', off', none⟩) n c'] w fun e w' => e = .returned (.bool true) ∧ Below w.heap.size w w' := by
  go_enter Try.func11, Try.ntmps11
  go_wp2
  go_loopw [5] (fun i wr => ∃ k : Nat, k ≤ n ∧ i = .int .i64 k ∧ Below w.heap.size w wr) (fun i _ => n - (intOf i).toNat)
  case atStart => exact ⟨0, Nat.zero_le _, rfl, Below.refl _ _⟩
  case round =>
    obtain ⟨k, hk, rfl, hb⟩ := hrel
    by_cases hlt : k < n
    · have g1 := fun p => blw_cell ((hb.cell (p := ⟨b', off' + k * 2, none⟩) (by exact hb1)).trans (hc' k hlt).1) p
      have g2 := fun p => blw_cell ((hb.cell (p := ⟨b', off' + k * 2 + 1, none⟩) (by exact hb1)).trans (hc' k hlt).2) p
      have c1 := fun p => blw_cell ((hb.cell (p := ⟨b, off + k * 2, none⟩) (by exact hb0)).trans (hc k hlt).1) p
      have c2 := fun p => blw_cell ((hb.cell (p := ⟨b, off + k * 2 + 1, none⟩) (by exact hb0)).trans (hc k hlt).2) p
      have o1 := (hok k hlt).below hb
      have hkm' : (k : Int) < (n : Int) := by omega
      have hRg : Nonempty Rg := ⟨⟨0, #[]⟩⟩
      have he := eqO_refl (nth L k).h (nth L k).l (nth L k).z
      go_wp2
      refine region_blw (by kernel_rfl) (by kernel_rfl) ?_
      repeat (go_big_quiet_step ((go_at_call 8; exact blw_calls (sameOutput_any _ _ _ _ _ _ _ _ _ _ _ o1.len o1.len (o1.rd.below (blw_below _ _)) (o1.rd.below (blw_below _ _))))))
      refine wpQuiet_nil ?_
      intro _ hw'
      obtain ⟨p, hw''⟩ := hw'
      subst hw''
      have hB2 : Below w.heap.size w (blw wr p) := hb.trans ((blw_below wr p).mono hb.size)
      clear g1 g2 c1 c2
      go_wp2
      go_roundw
      case rel => exact ⟨k + 1, by omega, by go_num, hB2⟩
      case measure => simp [intOf]; omega
    · go_wp2
      go_ret
      exact ⟨rfl, hb⟩

theorem sameOutputs_any (c c' : Nat) (a a' : Option Addr) (L : List Ot) (w : World) (h : Row 1048576 w a L) (h' : Row 1048576 w a' L) (hn : L.length ≤ 65536) :
    Calls Try.prog 11 #[.slice a L.length c, .slice a' L.length c'] w fun e w' => e = .returned (.bool true) ∧ Below w.heap.size w w' := by
  by_cases h0 : L.length = 0
  · rw [h0]
    exact (sameOutputs_none a a' c c' w).mono fun e w' ⟨he, hw⟩ => ⟨he, hw ▸ Below.refl _ _⟩
  · rcases h.at_ with h1 | ⟨b, off, rfl, hb, hcell⟩
    · exact absurd h1 h0
    rcases h'.at_ with h1 | ⟨b', off', rfl, hb', hcell'⟩
    · exact absurd h1 h0
    exact sameOutputs_walk b off b' off' L.length c c' L w hn hb hb' h.ok hcell hcell'

end Go.Proofs.Qxb6634862a
