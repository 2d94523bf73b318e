/-
  The walks of decimalText, hasPrefixText and hasSuffixText; how a label's text is cut.
-/
import Derived.Test.Qxb6627996aDoorRead
import Derived.Laws.IdiomStrings
import Derived.Deep.QuietTactic
import Derived.BigQuiet
namespace Go.Proofs.Qxb6627996aDoor
open Go.RowKit
open Go.Lib (decDigits)

/-! ### A label's text, cut -/

def shift (k : Nat) (Z : Nat → Int) : Nat → Int := fun i => Z (k + i)

theorem txt_cut (R C : Nat → Int) (k : Nat) (hk : 1 ≤ k) : ∀ m, txt R C (k + (m + 1)) = txt R C k ++ 44 :: txt (shift k R) (shift k C) (m + 1)
  | 0 => by
    have h : sep k = [44] := by unfold sep; rw [if_neg (by omega)]
    show txt R C k ++ (sep k ++ part R C k) = _
    rw [h]
    rfl
  | m + 1 => by
    have ih := txt_cut R C k hk m
    have h1 : sep (k + (m + 1)) = [44] := by unfold sep; rw [if_neg (by omega)]
    have h2 : sep (m + 1) = [44] := by unfold sep; rw [if_neg (by omega)]
    have e : txt R C (k + (m + 1 + 1)) = txt R C (k + (m + 1)) ++ (sep (k + (m + 1)) ++ part R C (k + (m + 1))) := rfl
    have e' : txt (shift k R) (shift k C) (m + 1 + 1) = txt (shift k R) (shift k C) (m + 1) ++ (sep (m + 1) ++ part R C (k + (m + 1))) := rfl
    rw [e, e', ih, h1, h2]
    simp

/-- The whole text is the first part's, a comma, and the rest's. -/
theorem lab_cut (R C : Nat → Int) (k n : Nat) (hk : 1 ≤ k) (hn : k < n) : lab R C n = lab R C k ++ 44 :: lab (shift k R) (shift k C) (n - k) := by
  obtain ⟨m, rfl⟩ : ∃ m, n = k + (m + 1) := ⟨n - k - 1, by omega⟩
  have e : k + (m + 1) - k = m + 1 := by omega
  unfold lab
  rw [e, if_neg (by omega), if_neg (by omega), if_neg (by omega), txt_cut R C k hk m]

/-- It begins with its first numeral and a colon. -/
theorem lab_begin (R C : Nat → Int) (n : Nat) (hn : 0 < n) : ∃ r, lab R C n = (decDigits (R 0).toNat ++ [58]) ++ r := by
  obtain ⟨r, e, _⟩ := txt_split R C 0 n hn
  refine ⟨decDigits (C 0).toNat ++ r, ?_⟩
  unfold lab
  rw [if_neg (by omega), e]
  simp [txt, sep, part]

/-- It ends with a colon and its last numeral. -/
theorem lab_end (R C : Nat → Int) (n : Nat) (hn : 1 ≤ n) : ∃ r, lab R C n = r ++ (58 :: decDigits (C (n - 1)).toNat) := by
  obtain ⟨m, rfl⟩ : ∃ m, n = m + 1 := ⟨n - 1, by omega⟩
  refine ⟨txt R C m ++ (sep m ++ decDigits (R m).toNat), ?_⟩
  unfold lab
  rw [if_neg (by omega)]
  simp [txt, part]

/-! ### hasPrefixText, hasSuffixText -/

theorem byte_of {s : ByteArray} {l : List UInt8} (h : s.data.toList = l) (i : Nat) (hi : i < l.length) : ∃ h' : i < s.size, s[i] = l[i] := by
  subst h
  exact ⟨by rw [list_size] at hi; exact hi, rfl⟩

set_option maxHeartbeats 400000 in
theorem prefix_any (s p : ByteArray) (r : List UInt8) (w : World) (hs : s.size ≤ 8388608) (h : s.data.toList = p.data.toList ++ r) :
    Calls Tryd.prog 10 #[.string s, .string p] w fun e w' => e = .returned (.bool true) ∧ Below w.heap.size w w' := by
  have hsz : s.size = p.size + r.length := by rw [← list_size, h, List.length_append, list_size]
  have hle : p.size ≤ s.size := by omega
  have HB : Hid (∀ i (h1 : i < p.size) (h2 : i < s.size), s[i] = p[i]) := by
    intro i h1 h2
    obtain ⟨_, e⟩ := byte_of h i (by rw [List.length_append, list_size]; omega)
    rw [e, List.getElem_append_left (by rw [list_size]; exact h1)]
    rfl
  clear hsz h
  go_enter Tryd.func10, Tryd.ntmps10
  go_wp2
  go_loopw [5] (fun i wr => ∃ k : Nat, k ≤ p.size ∧ i = .int .i64 k ∧ ∃ q, wr = w.drewN q) (fun i _ => p.size - (intOf i).toNat)
  case atStart => exact ⟨0, Nat.zero_le _, rfl, 0, rfl⟩
  case round =>
    obtain ⟨k, hk, rfl, q, rfl⟩ := hrel
    by_cases hlt : k < p.size
    · have h2 : k < s.size := by omega
      have e := HB.out k hlt h2
      have en : ((s[k].toNat : Int) != (p[k].toNat : Int)) = false := by rw [e]; simp
      have hlt' : (k : Int) < (p.size : Int) := by omega
      have h2' : (k : Int) < (s.size : Int) := by omega
      clear e
      go_wp2
      go_quiet (fail)
      go_wp2
      go_roundw
      case rel => exact ⟨k + 1, by omega, by go_num, q + nq, by simp⟩
      case measure => simp [intOf]; omega
    · go_wp2
      go_ret
      exact ⟨rfl, below_drewN (Below.refl _ _) _⟩

set_option maxHeartbeats 400000 in
theorem suffix_any (s p : ByteArray) (r : List UInt8) (w : World) (hs : s.size ≤ 8388608) (h : s.data.toList = r ++ p.data.toList) :
    Calls Tryd.prog 12 #[.string s, .string p] w fun e w' => e = .returned (.bool true) ∧ Below w.heap.size w w' := by
  have hsz : s.size = r.length + p.size := by rw [← list_size, h, List.length_append, list_size]
  have hle : p.size ≤ s.size := by omega
  obtain ⟨o, ho⟩ : ∃ o, o = r.length := ⟨_, rfl⟩
  have HB : Hid (∀ i (h1 : i < p.size) (h2 : o + i < s.size), s[o + i] = p[i]) := by
    intro i h1 h2
    subst ho
    obtain ⟨_, e⟩ := byte_of h (r.length + i) (by rw [List.length_append, list_size]; omega)
    rw [e, List.getElem_append_right (by omega)]
    simp only [Nat.add_sub_cancel_left]
    rfl
  rw [← ho] at hsz
  have hof : (s.size : Int) - (p.size : Int) = (o : Int) := by omega
  have hso : o + p.size ≤ s.size := by omega
  clear hsz h ho
  go_enter Tryd.func12, Tryd.ntmps12
  go_wp2
  go_loopw [6] (fun i wr => ∃ k : Nat, k ≤ p.size ∧ i = .int .i64 k ∧ ∃ q, wr = w.drewN q) (fun i _ => p.size - (intOf i).toNat)
  case atStart => exact ⟨0, Nat.zero_le _, rfl, 0, rfl⟩
  case round =>
    obtain ⟨k, hk, rfl, q, rfl⟩ := hrel
    by_cases hlt : k < p.size
    · have h2 : o + k < s.size := by omega
      have e := HB.out k hlt h2
      obtain ⟨j, hj⟩ : ∃ j, j = o + k := ⟨_, rfl⟩
      have hj2 : j < s.size := by omega
      have e' : s[j] = p[k] := by subst hj; exact e
      have en : ((s[j].toNat : Int) != (p[k].toNat : Int)) = false := by rw [e']; simp
      have hlt' : (k : Int) < (p.size : Int) := by omega
      have hj2' : (j : Int) < (s.size : Int) := by omega
      have hw : IntKind.i64.wrap ((o : Int) + (k : Int)) = (j : Int) := by rw [IntKind.wrap_i64]; omega
      have hw2 : (o : Int) + (k : Int) = (j : Int) := by omega
      clear e e' h2 hj
      go_wp2
      go_quiet (fail)
      go_wp2
      go_roundw
      case rel => exact ⟨k + 1, by omega, by go_num, q + nq, by simp⟩
      case measure => simp [intOf]; omega
    · go_wp2
      go_ret
      exact ⟨rfl, below_drewN (Below.refl _ _) _⟩

end Go.Proofs.Qxb6627996aDoor
