/-
  Plain mathematics of the two laws: decimal numerals, and a label's text.
-/
import Derived.Lib.ItoaNum
import Derived.Lib.ItoaLen
namespace Go.Proofs.Qxb6627996aDoor
open Go.Lib (decDigits)

/-! ### Numerals -/

def valN (l : List UInt8) : Nat := l.foldl (fun v c => v * 10 + (c.toNat - 48)) 0

theorem valN_snoc (l : List UInt8) (c : UInt8) : valN (l ++ [c]) = valN l * 10 + (c.toNat - 48) := by simp [valN]

theorem fold_ge (f : Nat → UInt8 → Nat) (hf : ∀ v c, v ≤ f v c) : ∀ (l : List UInt8) (v : Nat), v ≤ l.foldl f v
  | [], _ => Nat.le_refl _
  | c :: l, v => Nat.le_trans (hf v c) (fold_ge f hf l _)

theorem valN_take_le (l : List UInt8) (k : Nat) : valN (l.take k) ≤ valN l := by
  have e : valN l = (l.drop k).foldl (fun v c => v * 10 + (c.toNat - 48)) (valN (l.take k)) := by
    unfold valN
    rw [← List.foldl_append, List.take_append_drop]
  rw [e]
  exact fold_ge _ (fun v c => by omega) _ _

theorem dec_small {n : Nat} (h : n < 10) : decDigits n = [UInt8.ofNat (48 + n)] := Lib.decDigits_one h
theorem dec_big {n : Nat} (h : ¬ n < 10) : decDigits n = decDigits (n / 10) ++ [UInt8.ofNat (48 + n % 10)] := by rw [decDigits, dif_neg h]

theorem ofNat_digit {d : Nat} (h : d < 10) : (UInt8.ofNat (48 + d)).toNat = 48 + d := by
  simp
  omega

theorem dec_val (n : Nat) : valN (decDigits n) = n := by
  induction n using Nat.strongRecOn with
  | _ n ih =>
    by_cases h : n < 10
    · rw [dec_small h]
      simp only [valN, List.foldl_cons, List.foldl_nil]
      rw [ofNat_digit h]
      omega
    · rw [dec_big h, valN_snoc, ih (n / 10) (by omega), ofNat_digit (by omega)]
      omega

theorem dec_digit (n : Nat) : ∀ c ∈ decDigits n, 48 ≤ c.toNat ∧ c.toNat ≤ 57 := by
  induction n using Nat.strongRecOn with
  | _ n ih =>
    by_cases h : n < 10
    · rw [dec_small h]
      intro c hc
      simp only [List.mem_singleton] at hc
      subst hc
      rw [ofNat_digit h]
      omega
    · rw [dec_big h]
      intro c hc
      rcases List.mem_append.1 hc with hc | hc
      · exact ih (n / 10) (by omega) c hc
      · simp only [List.mem_singleton] at hc
        subst hc
        rw [ofNat_digit (by omega)]
        omega

theorem dec_pos (n : Nat) : 0 < (decDigits n).length := by
  rw [Lib.decDigits_length]
  exact Lib.nDigits_pos n

/-- No leading zero but in "0". -/
theorem dec_head (n : Nat) : 1 < (decDigits n).length → ∀ c r, decDigits n = c :: r → c.toNat ≠ 48 := by
  induction n using Nat.strongRecOn with
  | _ n ih =>
    by_cases h : n < 10
    · rw [dec_small h]
      intro h1
      simp at h1
    · rw [dec_big h]
      intro _ c r e
      by_cases h2 : n / 10 < 10
      · rw [dec_small h2] at e
        simp only [List.cons_append, List.cons.injEq] at e
        rw [← e.1, ofNat_digit h2]
        omega
      · cases hd : decDigits (n / 10) with
        | nil => have := dec_pos (n / 10); rw [hd] at this; simp at this
        | cons c' r' =>
          rw [hd] at e
          simp only [List.cons_append, List.cons.injEq] at e
          have hl : 1 < (decDigits (n / 10)).length := by
            rw [dec_big h2, List.length_append]
            have := dec_pos (n / 10 / 10)
            simp
            omega
          rw [← e.1]
          exact ih (n / 10) (by omega) hl c' r' hd

/-! ### A label's text -/

def sep (k : Nat) : List UInt8 := if k = 0 then [] else [44]
def part (R C : Nat → Int) (k : Nat) : List UInt8 := decDigits (R k).toNat ++ 58 :: decDigits (C k).toNat
def txt (R C : Nat → Int) : Nat → List UInt8
  | 0 => []
  | k + 1 => txt R C k ++ (sep k ++ part R C k)
/-- What String writes. -/
def lab (R C : Nat → Int) (n : Nat) : List UInt8 := if n = 0 then [48] else txt R C n

theorem txt_split (R C : Nat → Int) (k : Nat) : ∀ n, k < n → ∃ r, txt R C n = txt R C k ++ (sep k ++ part R C k) ++ r ∧ (r = [] ∨ ∃ r', r = 44 :: r')
  | 0, h => absurd h (Nat.not_lt_zero _)
  | n + 1, h => by
    rcases Nat.lt_succ_iff_lt_or_eq.1 h with h | rfl
    · obtain ⟨r, e, hr⟩ := txt_split R C k n h
      refine ⟨r ++ (sep n ++ part R C n), by rw [txt, e, List.append_assoc], Or.inr ?_⟩
      rcases hr with rfl | ⟨r', rfl⟩
      · refine ⟨part R C n, ?_⟩
        simp only [List.nil_append, sep]
        rw [if_neg (by omega)]
        rfl
      · exact ⟨r' ++ (sep n ++ part R C n), rfl⟩
    · exact ⟨[], by rw [txt, List.append_nil], Or.inl rfl⟩

theorem part_len (R C : Nat → Int) (k : Nat) (hR : (R k).toNat < 18446744073709551616) (hC : (C k).toNat < 18446744073709551616) : (part R C k).length ≤ 41 := by
  have h1 := Lib.nDigits_le20 (R k).toNat hR
  have h2 := Lib.nDigits_le20 (C k).toNat hC
  simp only [part, List.length_append, List.length_cons, Lib.decDigits_length]
  omega

theorem txt_len (R C : Nat → Int) (hR : ∀ k, (R k).toNat < 18446744073709551616) (hC : ∀ k, (C k).toNat < 18446744073709551616) : ∀ n, (txt R C n).length ≤ n * 42
  | 0 => Nat.le_refl _
  | n + 1 => by
    have := txt_len R C hR hC n
    have := part_len R C n (hR n) (hC n)
    have : (sep n).length ≤ 1 := by unfold sep; split <;> simp
    simp only [txt, List.length_append]
    omega

end Go.Proofs.Qxb6627996aDoor
