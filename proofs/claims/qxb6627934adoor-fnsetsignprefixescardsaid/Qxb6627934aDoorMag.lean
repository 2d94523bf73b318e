/-
  The walks of zzMag, zzModel and the two zzBytes.
-/
import Derived.Test.Qxb6627934aDoorRows
import Derived.Test.Qxb6627934aDoorPlain
import Derived.WalkKit
import Derived.WalkSpells
import Derived.WalkLawsBesides
namespace Go.Proofs.Qxb6627934aDoor
open Go.RowKit

def magV (o : Option Int) : Value := .tuple #[.int .u64 (o.getD 0), .bool o.isSome]

theorem drop_byte (s : ByteArray) (k : Nat) (h : k < s.size) : s.data.toList.drop k = s[k] :: s.data.toList.drop (k + 1) := by
  rw [List.drop_eq_getElem_cons (by simpa using h)]
  rfl

theorem mag_low (a : Int) (c : UInt8) (r : List UInt8) (h : (c.toNat : Int) < 48 ∨ 57 < (c.toNat : Int)) : magI a (c :: r) = none := by
  simp only [magI]
  rw [if_neg (by omega)]

theorem mag_over (a : Int) (c : UInt8) (r : List UInt8) (h1 : 48 ≤ (c.toNat : Int) ∧ (c.toNat : Int) ≤ 57) (h : (9223372036854775808 - ((c.toNat : Int) - 48)) / 10 < a) : magI a (c :: r) = none := by
  simp only [magI]
  rw [if_pos h1, if_pos h]

theorem mag_on (a : Int) (c : UInt8) (r : List UInt8) (h1 : 48 ≤ (c.toNat : Int) ∧ (c.toNat : Int) ≤ 57) (h : a ≤ (9223372036854775808 - ((c.toNat : Int) - 48)) / 10) : magI a (c :: r) = magI (a * 10 + ((c.toNat : Int) - 48)) r := by
  simp only [magI]
  rw [if_pos h1, if_neg (by omega)]

set_option maxHeartbeats 400000 in
theorem zzMag_any (s : ByteArray) (w : World) (hs : s.size ≤ 1048577) :
    Calls Tryd.prog 8 #[.string s] w fun e w' => e = .returned (magV (mag s.data.toList)) ∧ w = w' := by
  by_cases h0 : s.size = 0
  · have e : mag s.data.toList = none := by
      have : s.data.toList = [] := List.eq_nil_of_length_eq_zero (by simpa using h0)
      rw [this]; rfl
    rw [e]
    have h0' : ((s.size : Int) == 0) = true := by simp [h0]
    clear e
    go_enter Tryd.func8, Tryd.ntmps8
    go_wp2
    go_ret2
    exact ⟨rfl, rfl⟩
  · have h0' : ((s.size : Int) == 0) = false := by rw [beq_eq_false_iff_ne]; omega
    have e : mag s.data.toList = magI 0 s.data.toList := by
      unfold mag
      rw [if_neg (fun e => h0 (by have := congrArg List.length e; simpa using this))]
    rw [e]
    clear e
    go_enter Tryd.func8, Tryd.ntmps8
    go_wp2
    go_loop [5, 6] (fun m i => ∃ (k : Nat) (a : Int), k ≤ s.size ∧ i = .int .i64 k ∧ m = .int .u64 a ∧ 0 ≤ a ∧ a ≤ 9223372036854775808 ∧ Hid (magI 0 s.data.toList = magI a (s.data.toList.drop k))) (fun _ i => s.size - (intOf i).toNat)
    case atStart => exact ⟨0, 0, Nat.zero_le _, rfl, rfl, by omega, by omega, rfl⟩
    case round =>
      obtain ⟨k, a, hk, rfl, rfl, ha0, ha1, HM⟩ := hrel
      by_cases hlt : k < s.size
      · have hb : s[k].toNat < 256 := s[k].toNat_lt
        have HB : Hid (s.data.toList.drop k = s[k] :: s.data.toList.drop (k + 1)) := drop_byte s k hlt
        go_wp2
        · have h1 : (s[k].toNat : Int) < 48 ∨ 57 < (s[k].toNat : Int) := by assumption
          go_ret2
          rw [HM.out, HB.out, mag_low _ _ _ h1]
          exact ⟨rfl, rfl⟩
        · have h1 : 48 ≤ (s[k].toNat : Int) ∧ (s[k].toNat : Int) ≤ 57 := by assumption
          have h2 : (9223372036854775808 - ((s[k].toNat : Int) - 48)) / 10 < a := by assumption
          go_ret2
          rw [HM.out, HB.out, mag_over _ _ _ h1 h2]
          exact ⟨rfl, rfl⟩
        · have h1 : 48 ≤ (s[k].toNat : Int) ∧ (s[k].toNat : Int) ≤ 57 := by assumption
          have h2 : a ≤ (9223372036854775808 - ((s[k].toNat : Int) - 48)) / 10 := by assumption
          go_round
          case rel => exact ⟨k + 1, _, by omega, by go_num, rfl, by omega, by omega, by show _ = _; rw [HM.out, HB.out, mag_on _ _ _ h1 h2]⟩
          case measure => simp [intOf]; omega
        · have h1 : (s[k].toNat : Int) < 48 := by assumption
          go_ret2
          rw [HM.out, HB.out, mag_low _ _ _ (Or.inl h1)]
          exact ⟨rfl, rfl⟩
      · go_wp2
        go_ret2
        have e : s.data.toList.drop k = [] := List.drop_eq_nil_of_le (by simp; omega)
        rw [HM.out, e]
        exact ⟨rfl, rfl⟩

theorem zzMag_none (s : ByteArray) (w : World) (hs : s.size ≤ 1048577) (h : mag s.data.toList = none) :
    Calls Tryd.prog 8 #[.string s] w fun e w' => e = .returned (.tuple #[.int .u64 0, .bool false]) ∧ w = w' := by
  have := zzMag_any s w hs
  rw [h] at this
  exact this

theorem zzMag_some (s : ByteArray) (a : Int) (w : World) (hs : s.size ≤ 1048577) (h : mag s.data.toList = some a) :
    Calls Tryd.prog 8 #[.string s] w fun e w' => e = .returned (.tuple #[.int .u64 a, .bool true]) ∧ w = w' := by
  have := zzMag_any s w hs
  rw [h] at this
  exact this

def modV (o : Option Int) : Value := .tuple #[.int .i64 (o.getD 0), .bool o.isSome]

theorem bytes_cons (s : ByteArray) (h : 0 < s.size) : s.data.toList = s[0] :: (s.extract 1 s.size).data.toList := by
  have := drop_byte s 0 h
  simp only [List.drop_zero, Nat.zero_add] at this
  rw [this]
  congr 1
  simp
  rw [List.take_of_length_le]
  simp

theorem model_cons (c : UInt8) (r : List UInt8) : model (c :: r) =
    match mag (if c.toNat = 43 ∨ c.toNat = 45 then r else c :: r) with
    | none => none
    | some m => if c.toNat = 45 then some (-m) else if 9223372036854775807 < m then none else some m := rfl

set_option maxHeartbeats 400000 in
theorem zzModel_any (s : ByteArray) (w : World) (hs : s.size ≤ 1048577) :
    Calls Tryd.prog 7 #[.string s] w fun e w' => e = .returned (modV (model s.data.toList)) ∧ w = w' := by
  by_cases h0 : s.size = 0
  · have e : model s.data.toList = none := by
      have : s.data.toList = [] := List.eq_nil_of_length_eq_zero (by simpa using h0)
      rw [this]; rfl
    rw [e]
    have h0' : ((s.size : Int) == 0) = true := by simp [h0]
    clear e
    go_enter Tryd.func7, Tryd.ntmps7
    go_wp2
    go_ret2
    exact ⟨rfl, rfl⟩
  · have h0' : ((s.size : Int) == 0) = false := by rw [beq_eq_false_iff_ne]; omega
    have hp : 0 < s.size := by omega
    have e := bytes_cons s hp
    have hx : (s.extract 1 s.size).size ≤ 1048577 := by simp; omega
    by_cases hc : s[0].toNat = 43
    · have b1 : ((s[0].toNat : Int) == 43) = true := by simp [hc]
      cases hm : mag (s.extract 1 s.size).data.toList with
      | none =>
        have em : model s.data.toList = none := by rw [e, model_cons, if_pos (Or.inl hc), hm]
        rw [em]
        clear em e hc
        go_enter Tryd.func7, Tryd.ntmps7
        go_wp2_with (go_at_call 8; refine (zzMag_none _ _ hx hm).mono ?_; rintro e w' ⟨rfl, rfl⟩)
        go_ret2
        exact ⟨rfl, rfl⟩
      | some m =>
        have hb := mag_bound hm
        by_cases hg : 9223372036854775807 < m
        · have em : model s.data.toList = none := by rw [e, model_cons, if_pos (Or.inl hc), hm]; simp [hc, hg]
          rw [em]
          clear em e hc
          go_enter Tryd.func7, Tryd.ntmps7
          go_wp2_with (go_at_call 8; refine (zzMag_some _ m _ hx hm).mono ?_; rintro e w' ⟨rfl, rfl⟩)
          go_ret2
          exact ⟨rfl, rfl⟩
        · have em : model s.data.toList = some m := by rw [e, model_cons, if_pos (Or.inl hc), hm]; simp [hc, hg]
          rw [em]
          clear em e hc
          go_enter Tryd.func7, Tryd.ntmps7
          go_wp2_with (go_at_call 8; refine (zzMag_some _ m _ hx hm).mono ?_; rintro e w' ⟨rfl, rfl⟩)
          go_ret2
          exact ⟨rfl, rfl⟩
    · have b1 : ((s[0].toNat : Int) == 43) = false := by rw [beq_eq_false_iff_ne]; omega
      by_cases hc' : s[0].toNat = 45
      · have b2 : ((s[0].toNat : Int) == 45) = true := by simp [hc']
        cases hm : mag (s.extract 1 s.size).data.toList with
        | none =>
          have em : model s.data.toList = none := by rw [e, model_cons, if_pos (Or.inr hc'), hm]
          rw [em]
          clear em e hc hc'
          go_enter Tryd.func7, Tryd.ntmps7
          go_wp2_with (go_at_call 8; refine (zzMag_none _ _ hx hm).mono ?_; rintro e w' ⟨rfl, rfl⟩)
          go_ret2
          exact ⟨rfl, rfl⟩
        | some m =>
          have hb := mag_bound hm
          have em : model s.data.toList = some (-m) := by rw [e, model_cons, if_pos (Or.inr hc'), hm]; simp [hc']
          rw [em]
          clear em e hc hc'
          by_cases hg : m = 9223372036854775808
          · have hg' : (m == 9223372036854775808) = true := by rw [beq_iff_eq]; exact hg
            have HG : Hid (m = 9223372036854775808) := hg
            clear hg
            go_enter Tryd.func7, Tryd.ntmps7
            go_wp2_with (go_at_call 8; refine (zzMag_some _ m _ hx hm).mono ?_; rintro e w' ⟨rfl, rfl⟩)
            go_ret2
            rw [HG.out]
            exact ⟨rfl, rfl⟩
          · have hg' : (m == 9223372036854775808) = false := by rw [beq_eq_false_iff_ne]; exact hg
            have hg2 : m ≤ 9223372036854775807 := by omega
            clear hg
            go_enter Tryd.func7, Tryd.ntmps7
            go_wp2_with (go_at_call 8; refine (zzMag_some _ m _ hx hm).mono ?_; rintro e w' ⟨rfl, rfl⟩)
            go_ret2
            exact ⟨rfl, rfl⟩
      · have b2 : ((s[0].toNat : Int) == 45) = false := by rw [beq_eq_false_iff_ne]; omega
        cases hm : mag s.data.toList with
        | none =>
          have em : model s.data.toList = none := by rw [e, model_cons, if_neg (by omega), ← e, hm]
          rw [em]
          clear em e hc hc'
          go_enter Tryd.func7, Tryd.ntmps7
          go_wp2_with (go_at_call 8; refine (zzMag_none _ _ hs hm).mono ?_; rintro e w' ⟨rfl, rfl⟩)
          go_ret2
          exact ⟨rfl, rfl⟩
        | some m =>
          have hb := mag_bound hm
          by_cases hg : 9223372036854775807 < m
          · have em : model s.data.toList = none := by rw [e, model_cons, if_neg (by omega), ← e, hm]; simp [hc', hg]
            rw [em]
            clear em e hc hc'
            go_enter Tryd.func7, Tryd.ntmps7
            go_wp2_with (go_at_call 8; refine (zzMag_some _ m _ hs hm).mono ?_; rintro e w' ⟨rfl, rfl⟩)
            go_ret2
            exact ⟨rfl, rfl⟩
          · have em : model s.data.toList = some m := by rw [e, model_cons, if_neg (by omega), ← e, hm]; simp [hc', hg]
            rw [em]
            clear em e hc hc'
            go_enter Tryd.func7, Tryd.ntmps7
            go_wp2_with (go_at_call 8; refine (zzMag_some _ m _ hs hm).mono ?_; rintro e w' ⟨rfl, rfl⟩)
            go_ret2
            exact ⟨rfl, rfl⟩

theorem zzModel_none (s : ByteArray) (w : World) (hs : s.size ≤ 1048577) (h : model s.data.toList = none) :
    Calls Tryd.prog 7 #[.string s] w fun e w' => e = .returned (.tuple #[.int .i64 0, .bool false]) ∧ w = w' := by
  have := zzModel_any s w hs
  rw [h] at this
  exact this

theorem zzModel_some (s : ByteArray) (a : Int) (w : World) (hs : s.size ≤ 1048577) (h : model s.data.toList = some a) :
    Calls Tryd.prog 7 #[.string s] w fun e w' => e = .returned (.tuple #[.int .i64 a, .bool true]) ∧ w = w' := by
  have := zzModel_any s w hs
  rw [h] at this
  exact this

end Go.Proofs.Qxb6627934aDoor
