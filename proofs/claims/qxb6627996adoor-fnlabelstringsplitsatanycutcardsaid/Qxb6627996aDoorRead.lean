/-
  The walk of readDecimal at a numeral.
-/
import Derived.Test.Qxb6627996aDoorRows
import Derived.Test.Qxb6627996aDoorPlain
import Derived.WalkKit
import Derived.WalkSpells
import Derived.WalkLawsBesides
namespace Go.Proofs.Qxb6627996aDoor
open Go.RowKit
open Go.Lib (decDigits)

theorem drop_byte (s : ByteArray) (k : Nat) (h : k < s.size) : s.data.toList.drop k = s[k] :: s.data.toList.drop (k + 1) := by
  rw [List.drop_eq_getElem_cons (by simpa using h)]
  rfl

theorem list_size (s : ByteArray) : s.data.toList.length = s.size := by rw [Array.length_toList]; rfl

/-- The byte at place p + k, where from p on the text is known. -/
theorem byte_at {s : ByteArray} {p : Nat} {l : List UInt8} (h : s.data.toList.drop p = l) (k : Nat) (hk : k < l.length) : ∃ h' : p + k < s.size, s[p + k] = l[k] := by
  have hp : p + k < s.size := by
    have := congrArg List.length h
    rw [List.length_drop, list_size] at this
    omega
  refine ⟨hp, ?_⟩
  subst h
  rw [List.getElem_drop]
  rfl

/-- What a numeral's walk is told. -/
structure Num (s : ByteArray) (p n m : Nat) : Prop where
  pos : 0 < m
  fits : p + m ≤ s.size
  lt : n < 18446744073709551616
  step : ∀ k, k < m → ∃ h : p + k < s.size, ∃ d : Nat, s[p + k].toNat = 48 + d ∧ d ≤ 9 ∧ valN ((decDigits n).take (k + 1)) = valN ((decDigits n).take k) * 10 + d ∧ valN ((decDigits n).take (k + 1)) ≤ n
  all : valN ((decDigits n).take m) = n
  stop : p + m = s.size ∨ ∃ h : p + m < s.size, s[p + m].toNat < 48 ∨ 57 < s[p + m].toNat
  lead : 1 < m → ∃ h : p < s.size, s[p].toNat ≠ 48

theorem num_of {s : ByteArray} {p n : Nat} {r : List UInt8} (h : s.data.toList.drop p = decDigits n ++ r) (hn : n < 18446744073709551616)
    (hr : r = [] ∨ ∃ c r', r = c :: r' ∧ (c.toNat < 48 ∨ 57 < c.toNat)) : Num s p n (decDigits n).length := by
  have hl : s.size - p = (decDigits n).length + r.length := by
    have := congrArg List.length h
    rw [List.length_drop, list_size, List.length_append] at this
    exact this
  have hpos := dec_pos n
  refine ⟨hpos, by omega, hn, fun k hk => ?_, by rw [List.take_length, dec_val], ?_, fun h1 => ?_⟩
  · obtain ⟨h1, h2⟩ := byte_at h k (by rw [List.length_append]; omega)
    rw [List.getElem_append_left hk] at h2
    have hd := dec_digit n _ (List.getElem_mem hk)
    refine ⟨h1, (decDigits n)[k].toNat - 48, by rw [h2]; omega, by omega, ?_, ?_⟩
    · rw [List.take_succ_eq_append_getElem hk, valN_snoc]
    · have := valN_take_le (decDigits n) (k + 1)
      rw [dec_val] at this
      exact this
  · rcases hr with rfl | ⟨c, r', rfl, hc⟩
    · left; simp at hl; omega
    · right
      obtain ⟨h1, h2⟩ := byte_at h (decDigits n).length (by simp)
      refine ⟨h1, ?_⟩
      rw [h2, List.getElem_append_right (Nat.le_refl _)]
      simpa using hc
  · obtain ⟨h2, h3⟩ := byte_at h 0 (by rw [List.length_append]; omega)
    refine ⟨h2, ?_⟩
    rw [List.getElem_append_left hpos] at h3
    have : s[p] = (decDigits n)[0] := h3
    rw [this]
    exact dec_head n h1 _ (decDigits n).tail (by rw [← List.drop_one, ← List.drop_eq_getElem_cons hpos, List.drop_zero])

set_option maxHeartbeats 400000 in
theorem read_any (s : ByteArray) (p n m : Nat) (w : World) (hs : s.size ≤ 4194304) (h : Num s p n m) :
    Calls Tryd.prog 15 #[.string s, .int .i64 p] w fun e w' => e = .returned (.tuple #[.int .u64 n, .int .i64 (p + m : Nat), .bool true]) ∧ w = w' := by
  have hpos := h.pos
  have hfit := h.fits
  go_enter Tryd.func15, Tryd.ntmps15
  go_wp2
  go_loop [1, 8] (fun i v => ∃ (k : Nat) (a : Int), k ≤ m ∧ i = .int .i64 (p + k : Nat) ∧ v = .int .u64 a ∧ 0 ≤ a ∧ a ≤ 18446744073709551615 ∧ Hid (a = valN ((decDigits n).take k))) (fun i _ => p + m - (intOf i).toNat)
  case atStart => exact ⟨0, 0, Nat.zero_le _, rfl, rfl, by omega, by omega, by show (0 : Int) = _; simp [valN]⟩
  case round =>
    obtain ⟨k, a, hk, rfl, rfl, a0, a1, HA⟩ := hrel
    by_cases hlt : k < m
    · obtain ⟨hb, d, hd, hd9, hv1, hv2⟩ := h.step k hlt
      have e1 : (48 : Int) ≤ (s[p + k].toNat : Int) := by omega
      have e2 : (s[p + k].toNat : Int) ≤ 57 := by omega
      have hn := h.lt
      have ha := HA.out
      have e3 : a ≤ (18446744073709551615 - ((s[p + k].toNat : Int) - 48)) / 10 := by omega
      have HN : Hid (a * 10 + ((s[p + k].toNat : Int) - 48) = (valN ((decDigits n).take (k + 1)) : Nat)) := by show _ = _; omega
      have e4 : a * 10 + ((s[p + k].toNat : Int) - 48) ≤ 18446744073709551615 := by omega
      clear hv1 hv2 hd hd9 ha hn HA
      go_wp2
      go_round
      case rel => exact ⟨k + 1, _, by omega, by go_num, rfl, by omega, e4, HN⟩
      case measure => simp [intOf]; omega
    · obtain rfl : k = m := by omega
      have HV : Hid (a = (n : Int)) := by show _ = _; rw [HA.out, h.all]
      have hL : 1 < k → ∃ h : p < s.size, s[p].toNat ≠ 48 := h.lead
      have HL : Hid (1 < k → ∃ h : p < s.size, s[p].toNat ≠ 48) := hL
      have hp : p < s.size := by omega
      have hst := h.stop
      clear hL h HA
      rcases hst with hst | ⟨hb, hst | hst⟩
      case' inl => have hge : ¬ (p : Int) + (k : Int) < (s.size : Int) := by omega
      case' inr.inl => have hge : ¬ (48 : Int) ≤ (s[p + k].toNat : Int) := by omega
      case' inr.inr => have hge : ¬ (s[p + k].toNat : Int) ≤ 57 := by omega
      all_goals
        clear hst
        by_cases h48 : s[p].toNat = 48
        case' pos =>
          have h1k : k ≤ 1 := by
            rcases Nat.lt_or_ge 1 k with h1 | h1
            · obtain ⟨_, h2⟩ := HL.out h1; exact absurd h48 h2
            · exact h1
          have h48' : ((s[p].toNat : Int) == 48) = true := by rw [beq_iff_eq]; omega
        case' neg =>
          have h48' : ((s[p].toNat : Int) == 48) = false := by rw [beq_eq_false_iff_ne]; omega
        all_goals
          clear h48
          go_wp2
          go_ret3
          rw [HV.out]
          exact ⟨by go_num, rfl⟩

end Go.Proofs.Qxb6627996aDoor
