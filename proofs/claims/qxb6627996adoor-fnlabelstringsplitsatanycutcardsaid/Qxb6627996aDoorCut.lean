/-
  Small facts for the second law: zzBytes; the rows and labels on both sides of the cut.
-/
import Derived.Test.Qxb6627996aDoorHead
import Derived.Test.Qxb6627996aDoorDig
namespace Go.Proofs.Qxb6627996aDoor
open Go.RowKit

set_option maxHeartbeats 400000 in
theorem zzBytes9_yes (a a' : Option Addr) (n c n' c' : Nat) (z : Int) (w : World) (h : n + n' ≤ 1048576) : Calls Tryd.prog 9 #[.slice a n c, .slice a' n' c', .int .i64 z] w fun e w' => e = .returned (.bool true) ∧ w = w' := by
  go_enter Tryd.func9, Tryd.ntmps9
  go_wp2
  go_ret
  exact ⟨rfl, rfl⟩

set_option maxHeartbeats 400000 in
theorem zzBytes9_no (a a' : Option Addr) (n c n' c' : Nat) (z : Int) (w : World) (h : 1048576 < n + n') (hm : n ≤ 9223372036854775807) (hm' : n' ≤ 9223372036854775807) : Calls Tryd.prog 9 #[.slice a n c, .slice a' n' c', .int .i64 z] w fun e w' => e = .returned (.bool false) ∧ w = w' := by
  by_cases h1 : 1048576 < n
  · go_enter Tryd.func9, Tryd.ntmps9
    go_wp2
    go_ret
    exact ⟨rfl, rfl⟩
  · by_cases h2 : 1048576 < n'
    · go_enter Tryd.func9, Tryd.ntmps9
      go_wp2
      go_ret
      exact ⟨rfl, rfl⟩
    · go_enter Tryd.func9, Tryd.ntmps9
      go_wp2
      go_ret
      exact ⟨rfl, rfl⟩

theorem NR.take {kd : IntKind} {w : World} {a : Option Addr} {n k : Nat} {Z : Nat → Int} (h : NR kd w a n Z) (hk : k ≤ n) : NR kd w a k Z := by
  rcases h with h | ⟨b, off, e, hb, h⟩
  · exact Or.inl (by omega)
  · exact Or.inr ⟨b, off, e, hb, fun i hi => h i (by omega)⟩

theorem NR.drop {kd : IntKind} {w : World} {b off n k : Nat} {Z : Nat → Int} (h : NR kd w (some ⟨b, off, none⟩) n Z) (hk : k < n) : NR kd w (some ⟨b, off + k, none⟩) (n - k) (shift k Z) := by
  rcases h with h | ⟨b', off', e, hb, h⟩
  · omega
  · cases e
    exact Or.inr ⟨b, off + k, rfl, hb, fun i hi => by rw [Nat.add_assoc]; exact h (k + i) (by omega)⟩

theorem Fits.take {n k : Nat} {R C : Nat → Int} (h : Fits n R C) (hk : k ≤ n) : Fits k R C :=
  ⟨fun i hi => h.1 i (by omega), fun i hi => h.2 i (by omega), fun i hi => h.3 i (by omega), fun i hi => h.4 i (by omega)⟩

theorem Fits.drop {n k : Nat} {R C : Nat → Int} (h : Fits n R C) (hk : k < n) : Fits (n - k) (shift k R) (shift k C) :=
  ⟨fun i hi => h.1 (k + i) (by omega), fun i hi => h.2 (k + i) (by omega), fun i hi => h.3 (k + i) (by omega), fun i hi => h.4 (k + i) (by omega)⟩

/-- decimalText, its text under a name. -/
theorem text_named (z : Int) (w : World) (h0 : 0 ≤ z) (hm : z ≤ 18446744073709551615) :
    Calls Tryd.prog 11 #[.int .u64 z] w fun e w' => ∃ T : ByteArray, e = .returned (.string T) ∧ T.size ≤ 20 ∧ Hid (T.data.toList = Go.Lib.decDigits z.toNat) ∧ Below w.heap.size w w' := by
  refine (text_any z w h0 hm).mono ?_
  rintro e w' ⟨he, hb⟩
  refine ⟨_, he, ?_, ?_, hb⟩
  · have h1 : (Go.Lib.decDigits z.toNat).length ≤ 20 := by
      rw [Go.Lib.decDigits_length]
      exact Go.Lib.nDigits_le20 _ (by omega)
    rw [← list_size]
    exact h1
  · show _ = _
    rfl

/-- The three texts, under names. -/
theorem texts (R C : Nat → Int) (m n : Nat) (h1 : 1 ≤ m) (h2 : m < n) (hn : n ≤ 65536) (hf : Fits n R C) :
    ∃ S S1 S2 : ByteArray, S = ⟨(lab R C n).toArray⟩ ∧ S1 = ⟨(lab R C m).toArray⟩ ∧ S2 = ⟨(lab (shift m R) (shift m C) (n - m)).toArray⟩ ∧
      S1.size ≤ 4194304 ∧ S2.size ≤ 4194304 ∧ Hid (S = S1 ++ ⟨#[44]⟩ ++ S2) ∧
      Hid (∀ T : ByteArray, T.data.toList = Go.Lib.decDigits (R m).toNat → ∃ r, S2.data.toList = (T ++ ⟨#[58]⟩).data.toList ++ r) ∧
      Hid (∀ T : ByteArray, T.data.toList = Go.Lib.decDigits (C (m - 1)).toNat → ∃ r, S1.data.toList = r ++ ((⟨#[58]⟩ : ByteArray) ++ T).data.toList) := by
  refine ⟨_, _, _, rfl, rfl, rfl, ?_, ?_, ?_, ?_, ?_⟩
  · rw [← list_size]
    exact lab_len R C m (hf.take (by omega)) (by omega)
  · rw [← list_size]
    exact lab_len _ _ _ (hf.drop h2) (by omega)
  · show _ = _
    apply ByteArray.ext
    apply Array.ext'
    simp [lab_cut R C m n h1 h2]
  · intro T hT
    obtain ⟨r, e⟩ := lab_begin (shift m R) (shift m C) (n - m) (by omega)
    refine ⟨r, ?_⟩
    have e' : shift m R 0 = R m := rfl
    rw [e'] at e
    simp [e, hT]
  · intro T hT
    obtain ⟨r, e⟩ := lab_end R C m h1
    refine ⟨r, ?_⟩
    simp [e, hT]

end Go.Proofs.Qxb6627996aDoor
