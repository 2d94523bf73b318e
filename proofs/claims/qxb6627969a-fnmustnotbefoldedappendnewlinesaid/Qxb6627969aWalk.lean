/-
  The walk of mustNotBeFolded.
-/
import Derived.Test.Qxb6627969aRows
import Derived.Test.Qxb6627969aPlain
import Derived.Test.Qxb6627969aShelf
import Derived.WalkKit
import Derived.WalkSpells
import Derived.WalkLawsBesides
namespace Go.Proofs.Qxb6627969a
open Go.RowKit

theorem drop_byte (s : ByteArray) (k : Nat) (h : k < s.size) : s.data.toList.drop k = s[k] :: s.data.toList.drop (k + 1) := by
  rw [List.drop_eq_getElem_cons (by simpa using h)]
  rfl

theorem pre_call (s : ByteArray) (w : World) : Calls Try.prog 9 #[.string s, .string ⟨#[32]⟩] w fun e w' => e = .returned (.bool (Lib.hasPrefix s.data.toList [32])) ∧ w = w' :=
  (Any.strings_HasPrefix Try.lays99 s ⟨#[32]⟩ w).mono fun _ _ h => ⟨h.1, h.2.symm⟩

theorem suf_call (s : ByteArray) (w : World) (hs : s.size ≤ 9223372036854775807) : Calls Try.prog 10 #[.string s, .string ⟨#[10, 10]⟩] w fun e w' => e = .returned (.bool (Lib.hasSuffix s.data.toList [10, 10])) ∧ w = w' :=
  (Any.strings_HasSuffix Try.lays100 s ⟨#[10, 10]⟩ w hs).mono fun _ _ h => ⟨h.1, h.2.symm⟩

set_option maxHeartbeats 400000 in
theorem mnf_loop (s : ByteArray) (w : World) (hs : s.size ≤ 4194304) (hp : Lib.hasPrefix s.data.toList [32] = false) (hq : Lib.hasSuffix s.data.toList [10, 10] = false) :
    Calls Try.prog 8 #[.string s] w fun e w' => e = .returned (.bool (brk s.data.toList)) ∧ w = w' := by
  have P1 := fun w => pre_call s w
  have P2 := fun w => suf_call s w (by omega)
  rw [hp] at P1
  rw [hq] at P2
  clear hp hq
  go_enter Try.func8, Try.ntmps8
  go_wp2_with (first | (go_at_call 9; refine (P1 _).mono ?_; rintro e w' ⟨rfl, rfl⟩) | (go_at_call 10; refine (P2 _).mono ?_; rintro e w' ⟨rfl, rfl⟩))
  clear P1 P2
  go_loop [13] (fun i => ∃ k : Nat, k ≤ s.size ∧ i = .int .i64 k ∧ Hid (brk s.data.toList = brk (s.data.toList.drop k))) (fun i => s.size - (intOf i).toNat)
  case atStart => exact ⟨0, Nat.zero_le _, rfl, rfl⟩
  case round =>
    obtain ⟨k, hk, rfl, HB⟩ := hrel
    by_cases hlt : k + 1 < s.size
    · have hlt' : (k : Int) < (s.size : Int) - 1 := by omega
      have h1 : k < s.size := by omega
      have HD : Hid (brk s.data.toList = ((decide (s[k].toNat = 10) && (decide (s[k + 1].toNat = 32) || decide (s[k + 1].toNat = 9))) || brk (s.data.toList.drop (k + 1)))) := by
        show _ = _
        rw [HB.out, drop_byte s k h1, drop_byte s (k + 1) hlt]
        rfl
      by_cases h10 : s[k].toNat = 10
      · have e10 : ((s[k].toNat : Int) == 10) = true := by rw [beq_iff_eq]; omega
        by_cases h32 : s[k + 1].toNat = 32
        · have e32 : ((s[k + 1].toNat : Int) == 32) = true := by rw [beq_iff_eq]; omega
          have E : Hid (brk s.data.toList = true) := by show _ = _; rw [HD.out]; simp [h10, h32]
          clear h10 h32
          go_wp2
          go_ret
          rw [E.out]
          exact ⟨rfl, rfl⟩
        · have e32 : ((s[k + 1].toNat : Int) == 32) = false := by rw [beq_eq_false_iff_ne]; omega
          by_cases h9 : s[k + 1].toNat = 9
          · have e9 : ((s[k + 1].toNat : Int) == 9) = true := by rw [beq_iff_eq]; omega
            have E : Hid (brk s.data.toList = true) := by show _ = _; rw [HD.out]; simp [h10, h9]
            clear h10 h32 h9
            go_wp2
            go_ret
            rw [E.out]
            exact ⟨rfl, rfl⟩
          · have e9 : ((s[k + 1].toNat : Int) == 9) = false := by rw [beq_eq_false_iff_ne]; omega
            have HN : Hid (brk s.data.toList = brk (s.data.toList.drop (k + 1))) := by show _ = _; rw [HD.out]; simp [h10, h32, h9]
            clear h10 h32 h9
            go_wp2
            go_round
            case rel => exact ⟨k + 1, by omega, by go_num, HN⟩
            case measure => simp [intOf]; omega
      · have e10 : ((s[k].toNat : Int) == 10) = false := by rw [beq_eq_false_iff_ne]; omega
        have HN : Hid (brk s.data.toList = brk (s.data.toList.drop (k + 1))) := by show _ = _; rw [HD.out]; simp [h10]
        clear h10
        go_wp2
        go_round
        case rel => exact ⟨k + 1, by omega, by go_num, HN⟩
        case measure => simp [intOf]; omega
    · have hlt' : ¬ (k : Int) < (s.size : Int) - 1 := by omega
      have E : Hid (brk s.data.toList = false) := by
        show _ = _
        rw [HB.out]
        by_cases h1 : k < s.size
        · rw [drop_byte s k h1, List.drop_eq_nil_of_le (by rw [Array.length_toList]; show s.size ≤ k + 1; omega)]
          rfl
        · rw [List.drop_eq_nil_of_le (by rw [Array.length_toList]; show s.size ≤ k; omega)]
          rfl
      go_wp2
      go_ret
      rw [E.out]
      exact ⟨rfl, rfl⟩

set_option maxHeartbeats 400000 in
theorem mnf_any (s : ByteArray) (w : World) (hs : s.size ≤ 4194304) :
    Calls Try.prog 8 #[.string s] w fun e w' => e = .returned (.bool (mnf s.data.toList)) ∧ w = w' := by
  have P1 := fun w => pre_call s w
  have P2 := fun w => suf_call s w (by omega)
  cases hp : Lib.hasPrefix s.data.toList [32] with
  | true =>
    have e : mnf s.data.toList = true := by unfold mnf; rw [hp]; rfl
    rw [e]
    rw [hp] at P1
    clear e hp P2
    go_enter Try.func8, Try.ntmps8
    go_wp2_with (go_at_call 9; refine (P1 _).mono ?_; rintro e w' ⟨rfl, rfl⟩)
    go_ret
    exact ⟨rfl, rfl⟩
  | false =>
    cases hq : Lib.hasSuffix s.data.toList [10, 10] with
    | true =>
      have e : mnf s.data.toList = true := by unfold mnf; rw [hp, hq]; rfl
      rw [e]
      rw [hp] at P1
      rw [hq] at P2
      clear e hp hq
      go_enter Try.func8, Try.ntmps8
      go_wp2_with (first | (go_at_call 9; refine (P1 _).mono ?_; rintro e w' ⟨rfl, rfl⟩) | (go_at_call 10; refine (P2 _).mono ?_; rintro e w' ⟨rfl, rfl⟩))
      go_ret
      exact ⟨rfl, rfl⟩
    | false =>
      have e : mnf s.data.toList = brk s.data.toList := by unfold mnf; rw [hp, hq]; rfl
      rw [e]
      exact mnf_loop s w hs hp hq

/-- The exported twin, at a text that is a list's bytes. -/
theorem zz_any (s : ByteArray) (l : List UInt8) (r : Bool) (w : World) (hs : s.size ≤ 4194304) (hl : s.data.toList = l) (hr : mnf l = r) :
    Calls Try.prog 6 #[.string s] w fun e w' => e = .returned (.bool r) ∧ w = w' := by
  subst hl hr
  go_enter Try.func6, Try.ntmps6
  go_wp2_with (go_at_call 8; refine (mnf_any _ _ hs).mono ?_; rintro e w' ⟨rfl, rfl⟩)
  go_ret
  exact ⟨rfl, rfl⟩

end Go.Proofs.Qxb6627969a
