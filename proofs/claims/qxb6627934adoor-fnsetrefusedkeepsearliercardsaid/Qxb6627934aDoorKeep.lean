/-
  The walk of FnSetRefusedKeepsEarlier.
-/
import Derived.Test.Qxb6627934aDoorSet
import Derived.Deep.QuietTactic
import Derived.BigQuiet
namespace Go.Proofs.Qxb6627934aDoor
open Go.RowKit

set_option maxHeartbeats 400000 in
theorem zzBytes9_yes (x : Value) (a b : ByteArray) (w : World) (h : a.size + b.size ≤ 1048576) :
    Calls Tryd.prog 9 #[x, .string a, .string b] w fun e w' => e = .returned (.bool true) ∧ w = w' := by
  go_enter Tryd.func9, Tryd.ntmps9
  go_wp2
  go_ret
  exact ⟨rfl, rfl⟩

set_option maxHeartbeats 400000 in
theorem zzBytes9_no (x : Value) (a b : ByteArray) (w : World) (h : 1048576 < a.size + b.size) :
    Calls Tryd.prog 9 #[x, .string a, .string b] w fun e w' => e = .returned (.bool false) ∧ w = w' := by
  by_cases h1 : 1048576 < a.size
  · go_enter Tryd.func9, Tryd.ntmps9
    go_wp2
    go_ret
    exact ⟨rfl, rfl⟩
  · by_cases h2 : 1048576 < b.size
    · go_enter Tryd.func9, Tryd.ntmps9
      go_wp2
      go_ret
      exact ⟨rfl, rfl⟩
    · go_enter Tryd.func9, Tryd.ntmps9
      go_wp2
      go_ret
      exact ⟨rfl, rfl⟩

set_option maxHeartbeats 1000000 in
theorem keep_walk (x : Int) (a b : ByteArray) (w : World) (ha : a.size ≤ 9223372036854775807) (hb : b.size ≤ 9223372036854775807) (hE : Errs w) (h2 : 1 < w.heap.size) :
    Calls Tryd.prog 4 #[.int .i64 x, .string a, .string b] w fun e w' => e = .returned (.bool true) ∧ Below w.heap.size w w' := by
  by_cases hlen : 1048576 < a.size + b.size
  · go_enter Tryd.func4, Tryd.ntmps4
    go_wp2_with (go_at_call 9; refine (zzBytes9_no _ _ _ _ hlen).mono ?_; rintro e w' ⟨rfl, rfl⟩)
    go_ret
    exact ⟨rfl, Below.refl _ _⟩
  by_cases hla : 524288 < a.size
  · go_enter Tryd.func4, Tryd.ntmps4
    go_wp2_with (go_at_call 9; refine (zzBytes9_yes _ _ _ _ (by omega)).mono ?_; rintro e w' ⟨rfl, rfl⟩)
    go_ret
    exact ⟨rfl, Below.refl _ _⟩
  by_cases hlb : 524288 < b.size
  · have hla' : ¬ (524288 : Int) < (a.size : Int) := by omega
    go_enter Tryd.func4, Tryd.ntmps4
    go_wp2_with (go_at_call 9; refine (zzBytes9_yes _ _ _ _ (by omega)).mono ?_; rintro e w' ⟨rfl, rfl⟩)
    go_ret
    exact ⟨rfl, Below.refl _ _⟩
  have hla' : ¬ (524288 : Int) < (a.size : Int) := by omega
  have hlb' : ¬ (524288 : Int) < (b.size : Int) := by omega
  cases hA : model a.data.toList with
  | some u =>
    cases hB : model b.data.toList with
    | some v =>
      have HA : Hid (model a.data.toList = some u) := hA
      have HB : Hid (model b.data.toList = some v) := hB
      clear hA hB
      go_enter Tryd.func4, Tryd.ntmps4
      go_wp2_with (go_at_call 9; refine (zzBytes9_yes _ _ _ _ (by omega)).mono ?_; rintro e w' ⟨rfl, rfl⟩)
      refine (set_ok w.heap.size a x u _ (by omega) HA.out (by simp) (by simp)).mono ?_
      rintro e w1 ⟨rfl, g1⟩
      have c1 := g1.cell
      have B1 : Below w.heap.size w w1 := ((Below.refl _ _).alloc (Nat.le_refl _) _).trans (g1.below (Nat.le_refl _) (by simp))
      go_wp2_with fail
      refine (set_ok w.heap.size b u v _ (by omega) HB.out g1.cell g1.free).mono ?_
      rintro e w2 ⟨rfl, g2⟩
      have B2 : Below w.heap.size w w2 := B1.trans (g2.below (Nat.le_refl _) B1.size)
      have c2 := g2.cell
      clear g1 g2 c1
      go_wp2_with fail
      refine (zzModel_some _ _ _ (by omega) HA.out).mono ?_
      rintro e w' ⟨rfl, rfl⟩
      go_wp2_with fail
      refine (zzModel_some _ _ _ (by omega) HB.out).mono ?_
      rintro e w' ⟨rfl, rfl⟩
      go_wp2
      go_ret
      exact ⟨rfl, B2⟩
    | none =>
      have HA : Hid (model a.data.toList = some u) := hA
      have HB : Hid (model b.data.toList = none) := hB
      clear hA hB
      go_enter Tryd.func4, Tryd.ntmps4
      go_wp2_with (go_at_call 9; refine (zzBytes9_yes _ _ _ _ (by omega)).mono ?_; rintro e w' ⟨rfl, rfl⟩)
      refine (set_ok w.heap.size a x u _ (by omega) HA.out (by simp) (by simp)).mono ?_
      rintro e w1 ⟨rfl, g1⟩
      have c1 := g1.cell
      have B1 : Below w.heap.size w w1 := ((Below.refl _ _).alloc (Nat.le_refl _) _).trans (g1.below (Nat.le_refl _) (by simp))
      go_wp2_with fail
      refine (set_no w.heap.size b u _ (by omega) HB.out (hE.below h2 B1) g1.cell g1.free).mono ?_
      rintro e w2 ⟨N2, rfl, g2⟩
      have B2 : Below w.heap.size w w2 := B1.trans (g2.below (Nat.le_refl _) B1.size)
      have c2 := g2.cell
      clear g1 g2 c1
      go_wp2_with fail
      refine (zzModel_some _ _ _ (by omega) HA.out).mono ?_
      rintro e w' ⟨rfl, rfl⟩
      go_wp2_with fail
      refine (zzModel_none _ _ (by omega) HB.out).mono ?_
      rintro e w' ⟨rfl, rfl⟩
      go_wp2
      go_ret
      exact ⟨rfl, B2⟩
  | none =>
    cases hB : model b.data.toList with
    | some v =>
      have HA : Hid (model a.data.toList = none) := hA
      have HB : Hid (model b.data.toList = some v) := hB
      clear hA hB
      go_enter Tryd.func4, Tryd.ntmps4
      go_wp2_with (go_at_call 9; refine (zzBytes9_yes _ _ _ _ (by omega)).mono ?_; rintro e w' ⟨rfl, rfl⟩)
      refine (set_no w.heap.size a x _ (by omega) HA.out (hE.below h2 ((Below.refl _ _).alloc (Nat.le_refl _) _)) (by simp) (by simp)).mono ?_
      rintro e w1 ⟨N1, rfl, g1⟩
      have c1 := g1.cell
      have B1 : Below w.heap.size w w1 := ((Below.refl _ _).alloc (Nat.le_refl _) _).trans (g1.below (Nat.le_refl _) (by simp))
      go_wp2_with fail
      refine (set_ok w.heap.size b x v _ (by omega) HB.out g1.cell g1.free).mono ?_
      rintro e w2 ⟨rfl, g2⟩
      have B2 : Below w.heap.size w w2 := B1.trans (g2.below (Nat.le_refl _) B1.size)
      have c2 := g2.cell
      clear g1 g2 c1
      go_wp2_with fail
      refine (zzModel_none _ _ (by omega) HA.out).mono ?_
      rintro e w' ⟨rfl, rfl⟩
      go_wp2_with fail
      refine (zzModel_some _ _ _ (by omega) HB.out).mono ?_
      rintro e w' ⟨rfl, rfl⟩
      go_wp2
      go_ret
      exact ⟨rfl, B2⟩
    | none =>
      have HA : Hid (model a.data.toList = none) := hA
      have HB : Hid (model b.data.toList = none) := hB
      clear hA hB
      go_enter Tryd.func4, Tryd.ntmps4
      go_wp2_with (go_at_call 9; refine (zzBytes9_yes _ _ _ _ (by omega)).mono ?_; rintro e w' ⟨rfl, rfl⟩)
      refine (set_no w.heap.size a x _ (by omega) HA.out (hE.below h2 ((Below.refl _ _).alloc (Nat.le_refl _) _)) (by simp) (by simp)).mono ?_
      rintro e w1 ⟨N1, rfl, g1⟩
      have c1 := g1.cell
      have B1 : Below w.heap.size w w1 := ((Below.refl _ _).alloc (Nat.le_refl _) _).trans (g1.below (Nat.le_refl _) (by simp))
      go_wp2_with fail
      refine (set_no w.heap.size b x _ (by omega) HB.out (hE.below h2 B1) g1.cell g1.free).mono ?_
      rintro e w2 ⟨N2, rfl, g2⟩
      have B2 : Below w.heap.size w w2 := B1.trans (g2.below (Nat.le_refl _) B1.size)
      have c2 := g2.cell
      clear g1 g2 c1
      go_wp2_with fail
      refine (zzModel_none _ _ (by omega) HA.out).mono ?_
      rintro e w' ⟨rfl, rfl⟩
      go_wp2_with fail
      refine (zzModel_none _ _ (by omega) HB.out).mono ?_
      rintro e w' ⟨rfl, rfl⟩
      go_wp2
      go_ret
      exact ⟨rfl, B2⟩

end Go.Proofs.Qxb6627934aDoor
