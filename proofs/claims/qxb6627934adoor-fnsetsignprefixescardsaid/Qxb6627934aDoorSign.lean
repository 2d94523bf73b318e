/-
  The walk of FnSetSignPrefixes.
-/
import Derived.Test.Qxb6627934aDoorSet
import Derived.Deep.QuietTactic
import Derived.BigQuiet
namespace Go.Proofs.Qxb6627934aDoor
open Go.RowKit

theorem plus_data (s : ByteArray) : ((⟨#[43]⟩ : ByteArray) ++ s).data.toList = 43 :: s.data.toList := by
  simp [ByteArray.data_append]

theorem minus_data (s : ByteArray) : ((⟨#[45]⟩ : ByteArray) ++ s).data.toList = 45 :: s.data.toList := by
  simp [ByteArray.data_append]

theorem plus_size (s : ByteArray) : ((⟨#[43]⟩ : ByteArray) ++ s).size = s.size + 1 := by
  rw [ByteArray.size_append]; show 1 + s.size = _; omega

theorem minus_size (s : ByteArray) : ((⟨#[45]⟩ : ByteArray) ++ s).size = s.size + 1 := by
  rw [ByteArray.size_append]; show 1 + s.size = _; omega

/-- What a call of Set at a text that reads as o (or does not) hands back and leaves. -/
def Got (o : Option Int) (x : Int) (ev : Value) (b : Nat) (w w' : World) : Prop :=
  (ev = .nilIface ∧ o.isSome = true ∨ (∃ N, ev = .iface 37 (.pointer (some ⟨N, 0, none⟩))) ∧ o.isSome = false) ∧ SetTo b (o.getD x) w w'

theorem set_any (b : Nat) (s : ByteArray) (x : Int) (o : Option Int) (w : World) (hs : s.size ≤ 1048577) (h : model s.data.toList = o) (hE : Errs w) (hc : w.cell? ⟨b, 0, none⟩ = some (.int .i64 x)) (hf : w.frozen? ⟨b, 0, none⟩ = false) :
    Calls Tryd.prog 6 #[.pointer (some ⟨b, 0, none⟩), .string s] w fun e w' => ∃ ev, e = .returned ev ∧ Got o x ev b w w' := by
  cases o with
  | some v => exact (set_ok b s x v w hs h hc hf).mono fun e w' ⟨he, hS⟩ => ⟨_, he, Or.inl ⟨rfl, rfl⟩, hS⟩
  | none => exact (set_no b s x w hs h hE hc hf).mono fun e w' ⟨N, he, hS⟩ => ⟨_, he, Or.inr ⟨⟨N, rfl⟩, rfl⟩, hS⟩

theorem got_some {v x : Int} {ev : Value} {b : Nat} {w w' : World} (h : Got (some v) x ev b w w') : ev = .nilIface := by
  rcases h.1 with ⟨h, _⟩ | ⟨_, h⟩
  · exact h
  · cases h

theorem got_none {x : Int} {ev : Value} {b : Nat} {w w' : World} (h : Got none x ev b w w') : ∃ N, ev = .iface 37 (.pointer (some ⟨N, 0, none⟩)) := by
  rcases h.1 with ⟨_, h⟩ | ⟨h, _⟩
  · cases h
  · exact h

/-- The ways that the three texts go. -/
theorem sign_cases (l : List UInt8) :
    (∃ m, signed l = true ∧ model l = some m ∧ model (43 :: l) = none ∧ model (45 :: l) = none) ∨
    (signed l = true ∧ model l = none ∧ model (43 :: l) = none ∧ model (45 :: l) = none) ∨
    (signed l = false ∧ mag l = none ∧ model l = none ∧ model (43 :: l) = none ∧ model (45 :: l) = none) ∨
    (∃ m, signed l = false ∧ 0 ≤ m ∧ m ≤ 9223372036854775807 ∧ model l = some m ∧ model (43 :: l) = some m ∧ model (45 :: l) = some (-m)) ∨
    (signed l = false ∧ mag l = some 9223372036854775808 ∧ model l = none ∧ model (43 :: l) = none ∧ model (45 :: l) = some (-9223372036854775808)) := by
  cases hS : signed l with
  | true =>
    obtain ⟨hP, hM⟩ := plus_signed hS
    cases hA : model l with
    | some m => exact Or.inl ⟨m, rfl, rfl, hP, hM⟩
    | none => exact Or.inr (Or.inl ⟨rfl, rfl, hP, hM⟩)
  | false =>
    have hA := model_plain hS
    have hP := plus_plain hS
    have hM := minus_plain (l := l)
    cases hm : mag l with
    | none =>
      simp only [hm] at hA hM
      exact Or.inr (Or.inr (Or.inl ⟨rfl, rfl, hA, hP.trans hA, hM⟩))
    | some m =>
      have hb := mag_bound hm
      simp only [hm] at hA hM
      by_cases hg : 9223372036854775807 < m
      · rw [if_pos hg] at hA
        obtain rfl : m = 9223372036854775808 := by omega
        exact Or.inr (Or.inr (Or.inr (Or.inr ⟨rfl, rfl, hA, hP.trans hA, hM⟩)))
      · rw [if_neg hg] at hA
        exact Or.inr (Or.inr (Or.inr (Or.inl ⟨m, rfl, hb.1, by omega, hA, hP.trans hA, hM⟩)))

/-- How the program's own test for a sign reads the string. -/
theorem signed_true {s : ByteArray} (h : signed s.data.toList = true) : ∃ hp : 0 < s.size, (((s[0].toNat : Int) == 43) = true ∨ ((s[0].toNat : Int) == 43) = false ∧ ((s[0].toNat : Int) == 45) = true) := by
  by_cases hp : 0 < s.size
  · refine ⟨hp, ?_⟩
    rw [bytes_cons s hp] at h
    simp only [signed, Bool.or_eq_true, decide_eq_true_eq] at h
    by_cases h1 : s[0].toNat = 43
    · left; rw [beq_iff_eq]; omega
    · right; exact ⟨by rw [beq_eq_false_iff_ne]; omega, by rw [beq_iff_eq]; omega⟩
  · have : s.data.toList = [] := List.eq_nil_of_length_eq_zero (by rw [Array.length_toList]; show s.size = 0; omega)
    rw [this] at h
    cases h

theorem signed_false {s : ByteArray} (h : signed s.data.toList = false) (hp : 0 < s.size) : ((s[0].toNat : Int) == 43) = false ∧ ((s[0].toNat : Int) == 45) = false := by
  rw [bytes_cons s hp] at h
  simp only [signed, Bool.or_eq_false_iff, decide_eq_false_iff_not] at h
  exact ⟨by rw [beq_eq_false_iff_ne]; omega, by rw [beq_eq_false_iff_ne]; omega⟩

set_option maxHeartbeats 1000000 in
theorem sign_walk (x : Int) (s : ByteArray) (w : World) (hs : s.size ≤ 9223372036854775807) (hE : Errs w) (h2 : 1 < w.heap.size) :
    Calls Tryd.prog 3 #[.int .i64 x, .string s] w fun e w' => e = .returned (.bool true) ∧ Below w.heap.size w w' := by
  by_cases hlen : 1048576 < s.size
  · go_enter Tryd.func3, Tryd.ntmps3
    go_wp2_with (go_at_call 5; refine (zzBytes5_no _ _ _ hlen).mono ?_; rintro e w' ⟨rfl, rfl⟩)
    go_ret
    exact ⟨rfl, Below.refl _ _⟩
  · have hs1 : (s.size : Int) ≤ 1048576 := by omega
    obtain ⟨A, hA⟩ : ∃ A, model s.data.toList = A := ⟨_, rfl⟩
    obtain ⟨P, hP⟩ : ∃ P, model ((⟨#[43]⟩ : ByteArray) ++ s).data.toList = P := ⟨_, rfl⟩
    obtain ⟨M, hM⟩ : ∃ M, model ((⟨#[45]⟩ : ByteArray) ++ s).data.toList = M := ⟨_, rfl⟩
    have HA : Hid (model s.data.toList = A) := hA
    have HP : Hid (model ((⟨#[43]⟩ : ByteArray) ++ s).data.toList = P) := hP
    have HM : Hid (model ((⟨#[45]⟩ : ByteArray) ++ s).data.toList = M) := hM
    clear hA hP hM
    go_enter Tryd.func3, Tryd.ntmps3
    go_wp2_with (go_at_call 5; refine (zzBytes5_yes _ _ _ (by omega)).mono ?_; rintro e w' ⟨rfl, rfl⟩)
    refine (set_any w.heap.size s x A _ (by omega) HA.out (hE.below h2 ((Below.refl _ _).alloc (Nat.le_refl _) _)) (by simp) (by simp)).mono ?_
    rintro e w1 ⟨ea, rfl, ga⟩
    have B1 : Below w.heap.size w w1 := ((Below.refl _ _).alloc (Nat.le_refl _) _).trans (ga.2.below (Nat.le_refl _) (by simp))
    have z1 : w.heap.size < w1.heap.size := by have := ga.2.size; simp at this; omega
    go_wp2_with fail
    refine (set_any w1.heap.size _ x P _ (by rw [plus_size]; omega) HP.out ((hE.below h2 B1).below (by omega) ((Below.refl _ _).alloc (Nat.le_refl _) _)) (by simp) (by simp)).mono ?_
    rintro e w2 ⟨ep, rfl, gp⟩
    have B2 : Below w.heap.size w w2 := (B1.alloc B1.size _).trans (gp.2.below (by omega) (by simp; omega))
    have z2 : w1.heap.size < w2.heap.size := by have := gp.2.size; simp at this; omega
    go_wp2_with fail
    refine (set_any w2.heap.size _ x M _ (by rw [minus_size]; omega) HM.out ((hE.below h2 B2).below (by omega) ((Below.refl _ _).alloc (Nat.le_refl _) _)) (by simp) (by simp)).mono ?_
    rintro e w3 ⟨em, rfl, gm⟩
    have B3 : Below w.heap.size w w3 := (B2.alloc B2.size _).trans (gm.2.below (by omega) (by simp; omega))
    have al : ∀ {W : World} {o : Obj} {k : Nat} {u : Value}, W.cell? ⟨k, 0, none⟩ = some u → (W.alloc o).cell? ⟨k, 0, none⟩ = some u := fun {W o k u} h =>
      (((Below.refl W.heap.size W).alloc (Nat.le_refl _) o).cell (p := ⟨k, 0, none⟩) (World.block_lt_of_cell? _ _ h)).trans h
    have ca := gm.2.other (by omega) (al (gp.2.other (by omega) (al ga.2.cell)))
    have cp := gm.2.other (by omega) (al gp.2.cell)
    have cm := gm.2.cell
    have hcs := sign_cases s.data.toList
    rw [← plus_data, ← minus_data, HA.out, HP.out, HM.out] at hcs
    clear al B1 B2 z1 z2 hE HP HM
    have hsm : s.size ≤ 1048577 := by omega
    rcases hcs with ⟨m, hS, rfl, rfl, rfl⟩ | ⟨hS, rfl, rfl, rfl⟩ | ⟨hS, hm, rfl, rfl, rfl⟩ | ⟨m, hS, m0, m1, rfl, rfl, rfl⟩ | ⟨hS, hm, rfl, rfl, rfl⟩
    · obtain rfl := got_some ga
      obtain ⟨N1, rfl⟩ := got_none gp
      obtain ⟨N2, rfl⟩ := got_none gm
      obtain ⟨hp, hsg⟩ := signed_true hS
      clear ga gp gm hS
      rcases hsg with b1 | ⟨b1, b2⟩
      all_goals
        go_wp2_with (go_at_call 7; refine (zzModel_some _ _ _ hsm HA.out).mono ?_; rintro e w' ⟨rfl, rfl⟩)
        go_ret
        exact ⟨rfl, B3⟩
    · obtain ⟨N0, rfl⟩ := got_none ga
      obtain ⟨N1, rfl⟩ := got_none gp
      obtain ⟨N2, rfl⟩ := got_none gm
      obtain ⟨hp, hsg⟩ := signed_true hS
      clear ga gp gm hS
      rcases hsg with b1 | ⟨b1, b2⟩
      all_goals
        go_wp2_with (go_at_call 7; refine (zzModel_none _ _ hsm HA.out).mono ?_; rintro e w' ⟨rfl, rfl⟩)
        go_ret
        exact ⟨rfl, B3⟩
    · obtain ⟨N0, rfl⟩ := got_none ga
      obtain ⟨N1, rfl⟩ := got_none gp
      obtain ⟨N2, rfl⟩ := got_none gm
      have hsf := fun hp => signed_false hS hp
      clear ga gp gm hS
      by_cases hp : 0 < s.size
      case' pos => obtain ⟨b1, b2⟩ := hsf hp
      all_goals
        clear hsf
        go_wp2_with (go_at_call 7; refine (zzModel_none _ _ hsm HA.out).mono ?_; rintro e w' ⟨rfl, rfl⟩)
        go_quiet (fail)
        go_wp2_with (go_at_call 8; refine (zzMag_none _ _ hsm hm).mono ?_; rintro e w' ⟨rfl, rfl⟩)
        go_ret
        exact ⟨rfl, below_drewN B3 _⟩
    · obtain rfl := got_some ga
      obtain rfl := got_some gp
      obtain rfl := got_some gm
      have hsf := fun hp => signed_false hS hp
      clear ga gp gm hS
      by_cases hp : 0 < s.size
      case' pos => obtain ⟨b1, b2⟩ := hsf hp
      all_goals
        clear hsf
        go_wp2_with (go_at_call 7; refine (zzModel_some _ _ _ hsm HA.out).mono ?_; rintro e w' ⟨rfl, rfl⟩)
        go_quiet (fail)
        go_wp2
        go_ret
        exact ⟨rfl, below_drewN B3 _⟩
    · obtain ⟨N0, rfl⟩ := got_none ga
      obtain ⟨N1, rfl⟩ := got_none gp
      obtain rfl := got_some gm
      have hsf := fun hp => signed_false hS hp
      clear ga gp gm hS
      by_cases hp : 0 < s.size
      case' pos => obtain ⟨b1, b2⟩ := hsf hp
      all_goals
        clear hsf
        go_wp2_with (go_at_call 7; refine (zzModel_none _ _ hsm HA.out).mono ?_; rintro e w' ⟨rfl, rfl⟩)
        go_quiet (fail)
        go_wp2_with (go_at_call 8; refine (zzMag_some _ _ _ hsm hm).mono ?_; rintro e w' ⟨rfl, rfl⟩)
        go_ret
        exact ⟨rfl, below_drewN B3 _⟩

end Go.Proofs.Qxb6627934aDoor
