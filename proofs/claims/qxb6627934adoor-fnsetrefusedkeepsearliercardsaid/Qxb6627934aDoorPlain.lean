/-
  Plain mathematics of the two laws: what zzMag and zzModel compute, and how that stands to strconv.Atoi.
-/
import Derived.Lib.AtoiAll
namespace Go.Proofs.Qxb6627934aDoor

/-- zzMag's loop. -/
def magI (a : Int) : List UInt8 → Option Int
  | [] => some a
  | c :: r => if 48 ≤ (c.toNat : Int) ∧ (c.toNat : Int) ≤ 57 then (if (9223372036854775808 - ((c.toNat : Int) - 48)) / 10 < a then none else magI (a * 10 + ((c.toNat : Int) - 48)) r) else none

/-- zzMag. -/
def mag (l : List UInt8) : Option Int := if l = [] then none else magI 0 l

/-- zzModel behind the sign. -/
def model (l : List UInt8) : Option Int :=
  match l with
  | [] => none
  | c :: r =>
    match mag (if c.toNat = 43 ∨ c.toNat = 45 then r else l) with
    | none => none
    | some m => if c.toNat = 45 then some (-m) else if 9223372036854775807 < m then none else some m

theorem magI_bound : ∀ (l : List UInt8) (a m : Int), 0 ≤ a → a ≤ 9223372036854775808 → magI a l = some m → a ≤ m ∧ m ≤ 9223372036854775808
  | [], a, m, h0, h1, h => by
    simp [magI] at h
    omega
  | c :: r, a, m, h0, h1, h => by
    simp only [magI] at h
    split at h
    · split at h
      · cases h
      · have := magI_bound r _ m (by omega) (by omega) h
        omega
    · cases h

theorem mag_bound {l : List UInt8} {m : Int} (h : mag l = some m) : 0 ≤ m ∧ m ≤ 9223372036854775808 := by
  unfold mag at h
  split at h
  · cases h
  · have := magI_bound l 0 m (by omega) (by omega) h
    omega

theorem parse_mono : ∀ (l : List UInt8) (a u : Nat), Lib.parseUint10 a l = .ok u → a ≤ u
  | [], a, u, h => by
    simp only [Lib.parseUint10] at h
    injection h with h
    omega
  | c :: r, a, u, h => by
    simp only [Lib.parseUint10] at h
    split at h
    · split at h
      · cases h
      · split at h
        · cases h
        · have := parse_mono r _ u h
          omega
    · cases h

/-- zzMag's loop and ParseUint's: the same number where it is at most 2^63, else nothing. -/
theorem magI_parse : ∀ (l : List UInt8) (a : Nat), a ≤ 9223372036854775808 →
    magI a l = match Lib.parseUint10 a l with | .ok u => (if u ≤ 9223372036854775808 then some (u : Int) else none) | _ => none
  | [], a, h => by simp [magI, Lib.parseUint10, h]
  | c :: r, a, h => by
    simp only [magI, Lib.parseUint10]
    by_cases hd : 48 ≤ c.toNat ∧ c.toNat ≤ 57
    · rw [if_pos hd, if_pos (by omega)]
      by_cases hb : (9223372036854775808 - ((c.toNat : Int) - 48)) / 10 < (a : Int)
      · rw [if_pos hb]
        split
        · rename_i u hu
          split at hu
          · cases hu
          · split at hu
            · cases hu
            · have := parse_mono _ _ _ hu
              rw [if_neg (by omega)]
        · rfl
      · rw [if_neg hb, if_neg (by omega), if_neg (by omega)]
        have := magI_parse r (a * 10 + (c.toNat - 48)) (by omega)
        rw [← this]
        congr 1
        omega
    · rw [if_neg hd, if_neg (by omega)]

theorem mag_parse (l : List UInt8) : mag l = match Lib.parseMag l with | .ok u => (if u ≤ 9223372036854775808 then some (u : Int) else none) | _ => none := by
  unfold mag Lib.parseMag
  by_cases h : l = []
  · simp [h]
  · rw [if_neg h, if_neg h]
    exact magI_parse l 0 (by omega)

/-- zzModel takes just what Atoi takes. -/
theorem model_atoi (l : List UInt8) : model l = match Lib.atoiAll l with | .ok v => some v | _ => none := by
  unfold model Lib.atoiAll
  cases l with
  | nil => rfl
  | cons c r =>
    simp only
    rw [mag_parse]
    generalize Lib.parseMag (if c.toNat = 43 ∨ c.toNat = 45 then r else c :: r) = E
    cases E with
    | ok u =>
      simp only
      by_cases hn : c.toNat = 45
      · by_cases hu : u ≤ 9223372036854775808
        · simp [hn, hu]
          rw [if_neg (by omega)]
        · simp [hn, hu]
          rw [if_pos (by omega)]
      · by_cases hu : u ≤ 9223372036854775808
        · by_cases hv : u = 9223372036854775808
          · subst hv; simp [hn]
          · simp [hn, hu]
            rw [if_neg (by omega), if_neg (by omega)]
        · simp [hn, hu]
          rw [if_pos (by omega)]
    | _ => rfl

theorem model_bound {l : List UInt8} {v : Int} (h : model l = some v) : -9223372036854775808 ≤ v ∧ v ≤ 9223372036854775807 := by
  unfold model at h
  cases l with
  | nil => cases h
  | cons c r =>
    simp only at h
    split at h
    · cases h
    · rename_i m hm
      have := mag_bound hm
      split at h
      · injection h with h; omega
      · split at h
        · cases h
        · injection h with h; omega

/-- A text that opens with a sign is no magnitude. -/
theorem mag_sign (c : UInt8) (r : List UInt8) (h : c.toNat = 43 ∨ c.toNat = 45) : mag (c :: r) = none := by
  unfold mag
  rw [if_neg (by simp)]
  simp only [magI]
  rw [if_neg (by omega)]

def signed (l : List UInt8) : Bool := match l with | [] => false | c :: _ => decide (c.toNat = 43) || decide (c.toNat = 45)

theorem plus_signed {l : List UInt8} (h : signed l = true) : model (43 :: l) = none ∧ model (45 :: l) = none := by
  cases l with
  | nil => cases h
  | cons c r =>
    simp [signed] at h
    simp [model, mag_sign c r h]

theorem model_plain {l : List UInt8} (h : signed l = false) : model l = match mag l with | none => none | some m => if 9223372036854775807 < m then none else some m := by
  cases l with
  | nil => rfl
  | cons c r =>
    simp [signed] at h
    simp [model, h.1, h.2]

theorem plus_plain {l : List UInt8} (h : signed l = false) : model (43 :: l) = model l := by
  rw [model_plain h]
  simp [model]

theorem minus_plain {l : List UInt8} : model (45 :: l) = match mag l with | none => none | some m => some (-m) := by
  simp [model]

end Go.Proofs.Qxb6627934aDoor
