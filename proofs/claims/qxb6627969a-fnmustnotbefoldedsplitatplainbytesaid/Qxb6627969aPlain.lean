/-
  Plain mathematics of the two laws: when a text must not be folded.
-/
import Derived.Lib.Strings
namespace Go.Proofs.Qxb6627969a

/-- A newline and, right behind it, a blank or a tab. -/
def brk : List UInt8 → Bool
  | c :: d :: r => (decide (c.toNat = 10) && (decide (d.toNat = 32) || decide (d.toNat = 9))) || brk (d :: r)
  | _ => false

/-- mustNotBeFolded. -/
def mnf (l : List UInt8) : Bool := (Lib.hasPrefix l [32] || Lib.hasSuffix l [10, 10]) || brk l

theorem brk_cut : ∀ (a : List UInt8) (c : UInt8) (b : List UInt8), brk (a ++ c :: b) = (brk (a ++ [c]) || brk (c :: b))
  | [], c, b => by simp [brk]
  | [x], c, b => by simp [brk]
  | x :: y :: r, c, b => by
    have := brk_cut (y :: r) c b
    simp only [List.cons_append] at this
    simp only [List.cons_append, brk, this, Bool.or_assoc]

theorem pre_head (l : List UInt8) : Lib.hasPrefix l [32] = match l with | [] => false | c :: _ => c == 32 := by
  unfold Lib.hasPrefix
  cases l with
  | nil => rfl
  | cons c r => simp [List.isPrefixOf, BEq.comm (a := (32 : UInt8))]

theorem suf_rev (l : List UInt8) : Lib.hasSuffix l [10, 10] = match l.reverse with | c :: d :: _ => c == 10 && d == 10 | _ => false := by
  unfold Lib.hasSuffix List.isSuffixOf
  cases h : l.reverse with
  | nil => simp
  | cons c r =>
    cases r with
    | nil => simp [List.isPrefixOf]
    | cons d r => simp [List.isPrefixOf, BEq.comm (a := (10 : UInt8))]

theorem ne_of_nat {c : UInt8} {n : Nat} (hn : n < 256) (h : c.toNat ≠ n) : c ≠ UInt8.ofNat n := by
  intro e
  apply h
  rw [e]
  simp
  omega

theorem mnf_cut (a b : List UInt8) (c : UInt8) (h1 : c.toNat ≠ 32) (h3 : c.toNat ≠ 10) : mnf (a ++ c :: b) = (mnf (a ++ [c]) || mnf (c :: b)) := by
  have e1 : (c == 32) = false := by rw [beq_eq_false_iff_ne]; exact ne_of_nat (n := 32) (by omega) h1
  have e3 : (c == 10) = false := by rw [beq_eq_false_iff_ne]; exact ne_of_nat (n := 10) (by omega) h3
  have hp : Lib.hasPrefix (a ++ c :: b) [32] = (Lib.hasPrefix (a ++ [c]) [32] || Lib.hasPrefix (c :: b) [32]) := by
    rw [pre_head, pre_head, pre_head]
    cases a with
    | nil => simp
    | cons x r => simp [e1]
  have hs : Lib.hasSuffix (a ++ c :: b) [10, 10] = (Lib.hasSuffix (a ++ [c]) [10, 10] || Lib.hasSuffix (c :: b) [10, 10]) := by
    rw [suf_rev, suf_rev, suf_rev]
    simp only [List.reverse_append, List.reverse_cons, List.reverse_nil, List.nil_append, List.append_assoc, List.singleton_append]
    cases hb : b.reverse with
    | nil =>
      cases ha : a.reverse with
      | nil => simp
      | cons y s => simp [e3]
    | cons x r =>
      cases r with
      | nil =>
        cases ha : a.reverse with
        | nil => simp [e3]
        | cons y s => simp [e3]
      | cons x' r' =>
        cases ha : a.reverse with
        | nil => simp
        | cons y s => simp [e3]
  unfold mnf
  rw [hp, hs, brk_cut a c b]
  generalize Lib.hasPrefix (a ++ [c]) [32] = x1
  generalize Lib.hasPrefix (c :: b) [32] = x2
  generalize Lib.hasSuffix (a ++ [c]) [10, 10] = x3
  generalize Lib.hasSuffix (c :: b) [10, 10] = x4
  generalize brk (a ++ [c]) = x5
  generalize brk (c :: b) = x6
  cases x1 <;> cases x2 <;> cases x3 <;> cases x4 <;> cases x5 <;> cases x6 <;> rfl

theorem mnf_brk {l : List UInt8} (h : brk l = true) : mnf l = true := by
  unfold mnf
  rw [h, Bool.or_true]

theorem mnf_blank (a b : List UInt8) : mnf (a ++ 10 :: 32 :: b) = true := mnf_brk (by rw [brk_cut]; simp [brk])
theorem mnf_tab (a b : List UInt8) : mnf (a ++ 10 :: 9 :: b) = true := mnf_brk (by rw [brk_cut]; simp [brk])

theorem mnf_lead (s : List UInt8) : mnf (32 :: s) = true := by
  unfold mnf
  rw [pre_head]
  simp

theorem mnf_two (s : List UInt8) : mnf (s ++ [10, 10]) = true := by
  unfold mnf
  rw [suf_rev]
  simp

def endsNL (s : List UInt8) : Bool := match s.reverse with | [] => false | c :: _ => decide (c.toNat = 10)

theorem toNat_eq_ten (c : UInt8) : (c == 10) = decide (c.toNat = 10) := by
  rw [Bool.eq_iff_iff]
  simp [← UInt8.toNat_inj]

theorem brk_nl : ∀ s : List UInt8, brk (s ++ [10]) = brk s
  | [] => rfl
  | [x] => by simp [brk]
  | x :: y :: r => by
    have := brk_nl (y :: r)
    simp only [List.cons_append] at this
    simp only [List.cons_append, brk, this]

theorem mnf_nl (s : List UInt8) : mnf (s ++ [10]) = (mnf s || endsNL s) := by
  have hp : Lib.hasPrefix (s ++ [10]) [32] = Lib.hasPrefix s [32] := by
    rw [pre_head, pre_head]
    cases s with
    | nil => rfl
    | cons x r => simp
  have hs : Lib.hasSuffix (s ++ [10]) [10, 10] = endsNL s := by
    rw [suf_rev]
    unfold endsNL
    simp only [List.reverse_append, List.reverse_cons, List.reverse_nil, List.nil_append, List.singleton_append]
    cases s.reverse with
    | nil => rfl
    | cons x r => simp [toNat_eq_ten]
  have hi : Lib.hasSuffix s [10, 10] = true → endsNL s = true := by
    rw [suf_rev]
    unfold endsNL
    cases s.reverse with
    | nil => simp
    | cons x r =>
      cases r with
      | nil => simp
      | cons y r => simp [toNat_eq_ten]; intro h _; exact h
  unfold mnf
  rw [hp, hs, brk_nl]
  generalize Lib.hasPrefix s [32] = x1 at *
  generalize Lib.hasSuffix s [10, 10] = x2 at *
  generalize endsNL s = x3 at *
  generalize brk s = x4 at *
  cases x1 <;> cases x2 <;> cases x3 <;> cases x4 <;> simp at hi ⊢

end Go.Proofs.Qxb6627969a
