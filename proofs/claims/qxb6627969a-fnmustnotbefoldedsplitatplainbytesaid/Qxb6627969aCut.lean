/-
  The walk of FnMustNotBeFoldedSplitAtPlainByte.
-/
import Derived.Test.Qxb6627969aWalk
namespace Go.Proofs.Qxb6627969a
open Go.RowKit

set_option maxHeartbeats 400000 in
theorem zzBytes5_yes (a b : ByteArray) (c : Value) (w : World) (h : a.size + b.size ≤ 1048576) : Calls Try.prog 5 #[.string a, c, .string b] w fun e w' => e = .returned (.bool true) ∧ w = w' := by
  go_enter Try.func5, Try.ntmps5
  go_wp2
  go_ret
  exact ⟨rfl, rfl⟩

set_option maxHeartbeats 400000 in
theorem zzBytes5_no (a b : ByteArray) (c : Value) (w : World) (h : 1048576 < a.size + b.size) : Calls Try.prog 5 #[.string a, c, .string b] w fun e w' => e = .returned (.bool false) ∧ w = w' := by
  by_cases h1 : 1048576 < a.size
  · go_enter Try.func5, Try.ntmps5
    go_wp2
    go_ret
    exact ⟨rfl, rfl⟩
  · by_cases h2 : 1048576 < b.size
    · go_enter Try.func5, Try.ntmps5
      go_wp2
      go_ret
      exact ⟨rfl, rfl⟩
    · go_enter Try.func5, Try.ntmps5
      go_wp2
      go_ret
      exact ⟨rfl, rfl⟩

set_option maxHeartbeats 400000 in
theorem cut_walk (a b : ByteArray) (c : Int) (u : UInt8) (w : World) (hu : c = (u.toNat : Int)) :
    Calls Try.prog 3 #[.string a, .int .u8 c, .string b] w fun e w' => e = .returned (.bool true) ∧ Grown w w' := by
  by_cases hl : 1048576 < a.size + b.size
  · go_enter Try.func3, Try.ntmps3
    go_wp2_with (go_at_call 5; refine (zzBytes5_no _ _ _ _ hl).mono ?_; rintro e w' ⟨rfl, rfl⟩)
    go_ret
    exact ⟨rfl, Grown.refl _⟩
  have hl' : a.size + b.size ≤ 1048576 := by omega
  by_cases ha : 524288 < a.size
  · go_enter Try.func3, Try.ntmps3
    go_wp2_with (go_at_call 5; refine (zzBytes5_yes _ _ _ _ hl').mono ?_; rintro e w' ⟨rfl, rfl⟩)
    go_ret
    exact ⟨rfl, Grown.refl _⟩
  by_cases hb : 524288 < b.size
  · have ha' : ¬ (524288 : Int) < (a.size : Int) := by omega
    go_enter Try.func3, Try.ntmps3
    go_wp2_with (go_at_call 5; refine (zzBytes5_yes _ _ _ _ hl').mono ?_; rintro e w' ⟨rfl, rfl⟩)
    go_ret
    exact ⟨rfl, Grown.refl _⟩
  have ha' : ¬ (524288 : Int) < (a.size : Int) := by omega
  have hb' : ¬ (524288 : Int) < (b.size : Int) := by omega
  by_cases h32 : c = 32
  · subst h32
    go_enter Try.func3, Try.ntmps3
    go_wp2_with (go_at_call 5; refine (zzBytes5_yes _ _ _ _ hl').mono ?_; rintro e w' ⟨rfl, rfl⟩)
    go_ret
    exact ⟨rfl, Grown.refl _⟩
  by_cases h9 : c = 9
  · subst h9
    go_enter Try.func3, Try.ntmps3
    go_wp2_with (go_at_call 5; refine (zzBytes5_yes _ _ _ _ hl').mono ?_; rintro e w' ⟨rfl, rfl⟩)
    go_ret
    exact ⟨rfl, Grown.refl _⟩
  by_cases h10 : c = 10
  · subst h10
    go_enter Try.func3, Try.ntmps3
    go_wp2_with (go_at_call 5; refine (zzBytes5_yes _ _ _ _ hl').mono ?_; rintro e w' ⟨rfl, rfl⟩)
    go_ret
    exact ⟨rfl, Grown.refl _⟩
  have e32 : (c == 32) = false := by rw [beq_eq_false_iff_ne]; exact h32
  have e9 : (c == 9) = false := by rw [beq_eq_false_iff_ne]; exact h9
  have e10 : (c == 10) = false := by rw [beq_eq_false_iff_ne]; exact h10
  have hcv := run_convert_bytes_back (P := Try.prog) (w.alloc (.cells #[.int .u8 c] 5)) 23 9 5 ⟨w.heap.size, 0, none⟩ 1 [u] Try.underlying23 Try.underlying5 Try.underlying9 (fun j hj => by
    match j, hj with
    | 0, _ => simp [Addr.add, hu])
  simp only [List.length_singleton] at hcv
  obtain ⟨x, hx⟩ : ∃ x, mnf (a.data.toList ++ [u]) = x := ⟨_, rfl⟩
  obtain ⟨y, hy⟩ : ∃ y, mnf (u :: b.data.toList) = y := ⟨_, rfl⟩
  have C1 := fun w => zz_any (a ++ ⟨#[u]⟩ ++ b) (a.data.toList ++ u :: b.data.toList) (x || y) w (by rw [ByteArray.size_append, ByteArray.size_append]; show a.size + 1 + b.size ≤ _; omega) (by simp [ByteArray.data_append]) (by rw [mnf_cut _ _ _ (by omega) (by omega), hx, hy])
  have C2 := fun w => zz_any (a ++ ⟨#[u]⟩) (a.data.toList ++ [u]) x w (by rw [ByteArray.size_append]; show a.size + 1 ≤ _; omega) (by simp [ByteArray.data_append]) hx
  have C3 := fun w => zz_any (⟨#[u]⟩ ++ b) (u :: b.data.toList) y w (by rw [ByteArray.size_append]; show 1 + b.size ≤ _; omega) (by simp [ByteArray.data_append]) hy
  have C4 := fun w => zz_any (a ++ ⟨#[10, 32]⟩ ++ b) (a.data.toList ++ 10 :: 32 :: b.data.toList) true w (by rw [ByteArray.size_append, ByteArray.size_append]; show a.size + 2 + b.size ≤ _; omega) (by simp [ByteArray.data_append]) (mnf_blank _ _)
  have C5 := fun w => zz_any (a ++ ⟨#[10, 9]⟩ ++ b) (a.data.toList ++ 10 :: 9 :: b.data.toList) true w (by rw [ByteArray.size_append, ByteArray.size_append]; show a.size + 2 + b.size ≤ _; omega) (by simp [ByteArray.data_append]) (mnf_tab _ _)
  clear hx hy h32 h9 h10 hu
  go_enter Try.func3, Try.ntmps3
  go_wp2_with (go_at_call 5; refine (zzBytes5_yes _ _ _ _ hl').mono ?_; rintro e w' ⟨rfl, rfl⟩)
  refine (C1 _).mono ?_
  rintro e w' ⟨rfl, rfl⟩
  go_wp2_with fail
  refine (C2 _).mono ?_
  rintro e w' ⟨rfl, rfl⟩
  go_wp2_with fail
  refine (C3 _).mono ?_
  rintro e w' ⟨rfl, rfl⟩
  go_wp2_with fail
  refine (C4 _).mono ?_
  rintro e w' ⟨rfl, rfl⟩
  go_wp2_with fail
  refine (C5 _).mono ?_
  rintro e w' ⟨rfl, rfl⟩
  clear C1 C2 C3 C4 C5 hcv
  cases x <;> cases y
  all_goals
    go_wp2
    go_ret
    exact ⟨rfl, (Grown.refl _).alloc _ _⟩

end Go.Proofs.Qxb6627969a
