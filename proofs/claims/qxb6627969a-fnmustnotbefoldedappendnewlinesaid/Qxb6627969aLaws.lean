/-
  The walks of the two laws.
-/
import Derived.Test.Qxb6627969aWalk
namespace Go.Proofs.Qxb6627969a
open Go.RowKit

set_option maxHeartbeats 400000 in
theorem zzBytes7_yes (s : ByteArray) (w : World) (h : s.size ≤ 1048576) : Calls Try.prog 7 #[.string s] w fun e w' => e = .returned (.bool true) ∧ w = w' := by
  go_enter Try.func7, Try.ntmps7
  go_wp2
  go_ret
  exact ⟨rfl, rfl⟩

set_option maxHeartbeats 400000 in
theorem zzBytes7_no (s : ByteArray) (w : World) (h : 1048576 < s.size) : Calls Try.prog 7 #[.string s] w fun e w' => e = .returned (.bool false) ∧ w = w' := by
  go_enter Try.func7, Try.ntmps7
  go_wp2
  go_ret
  exact ⟨rfl, rfl⟩

theorem list_size (s : ByteArray) : s.data.toList.length = s.size := by rw [Array.length_toList]; rfl

theorem ends_some (s : ByteArray) (h : 0 < s.size) : endsNL s.data.toList = decide (s[s.size - 1].toNat = 10) := by
  have e : s.data.toList = s.data.toList.take (s.size - 1) ++ [s[s.size - 1]] := by
    have := drop_byte s (s.size - 1) (by omega)
    rw [List.drop_eq_nil_of_le (show s.data.toList.length ≤ s.size - 1 + 1 by rw [list_size]; omega)] at this
    rw [← this, List.take_append_drop]
  unfold endsNL
  rw [e]
  simp

theorem ends_none (s : ByteArray) (h : ¬ 0 < s.size) : endsNL s.data.toList = false := by
  have : s.data.toList = [] := List.eq_nil_of_length_eq_zero (by rw [list_size]; omega)
  rw [this]
  rfl

set_option maxHeartbeats 400000 in
theorem nl_walk (s : ByteArray) (w : World) :
    Calls Try.prog 4 #[.string s] w fun e w' => e = .returned (.bool true) ∧ w = w' := by
  by_cases hl : 1048576 < s.size
  · go_enter Try.func4, Try.ntmps4
    go_wp2_with (go_at_call 7; refine (zzBytes7_no _ _ hl).mono ?_; rintro e w' ⟨rfl, rfl⟩)
    go_ret
    exact ⟨rfl, rfl⟩
  · have hl' : s.size ≤ 1048576 := by omega
    obtain ⟨x, hx⟩ : ∃ x, mnf s.data.toList = x := ⟨_, rfl⟩
    obtain ⟨y, hy⟩ : ∃ y, endsNL s.data.toList = y := ⟨_, rfl⟩
    have C1 := fun w => zz_any s _ x w (by omega) rfl hx
    have C2 := fun w => zz_any (s ++ ⟨#[10]⟩) (s.data.toList ++ [10]) (x || y) w (by rw [ByteArray.size_append]; show s.size + 1 ≤ _; omega) (by simp [ByteArray.data_append]) (by rw [mnf_nl, hx, hy])
    have C3 := fun w => zz_any (s ++ ⟨#[10, 10]⟩) (s.data.toList ++ [10, 10]) true w (by rw [ByteArray.size_append]; show s.size + 2 ≤ _; omega) (by simp [ByteArray.data_append]) (mnf_two _)
    have C4 := fun w => zz_any (⟨#[32]⟩ ++ s) (32 :: s.data.toList) true w (by rw [ByteArray.size_append]; show 1 + s.size ≤ _; omega) (by simp [ByteArray.data_append]) (mnf_lead _)
    clear hx
    by_cases hp : 0 < s.size
    · have hz := ends_some s hp
      rw [hy] at hz
      have HZ : Hid (y = decide (s[s.size - 1].toNat = 10)) := hz
      clear hz hy
      have hb : ((s[s.size - 1].toNat : Int) == 10) = y := by
        rw [HZ.out, Bool.eq_iff_iff]
        simp
        omega
      go_enter Try.func4, Try.ntmps4
      go_wp2_with (go_at_call 7; refine (zzBytes7_yes _ _ hl').mono ?_; rintro e w' ⟨rfl, rfl⟩)
      refine (C1 _).mono ?_
      rintro e w' ⟨rfl, rfl⟩
      go_wp2_with fail
      refine (C2 _).mono ?_
      rintro e w' ⟨rfl, rfl⟩
      go_wp2_with fail
      refine (C3 _).mono ?_
      rintro e w' ⟨rfl, rfl⟩
      go_wp2_with fail
      refine (C4 _).mono ?_
      rintro e w' ⟨rfl, rfl⟩
      clear C1 C2 C3 C4 hb HZ
      cases x <;> cases y
      all_goals
        go_wp2
        go_ret
        exact ⟨rfl, rfl⟩
    · have hz := ends_none s hp
      rw [hy] at hz
      subst hz
      go_enter Try.func4, Try.ntmps4
      go_wp2_with (go_at_call 7; refine (zzBytes7_yes _ _ hl').mono ?_; rintro e w' ⟨rfl, rfl⟩)
      refine (C1 _).mono ?_
      rintro e w' ⟨rfl, rfl⟩
      go_wp2_with fail
      refine (C2 _).mono ?_
      rintro e w' ⟨rfl, rfl⟩
      go_wp2_with fail
      refine (C3 _).mono ?_
      rintro e w' ⟨rfl, rfl⟩
      go_wp2_with fail
      refine (C4 _).mono ?_
      rintro e w' ⟨rfl, rfl⟩
      clear C1 C2 C3 C4
      cases x
      all_goals
        go_wp2
        go_ret
        exact ⟨rfl, rfl⟩

end Go.Proofs.Qxb6627969a
