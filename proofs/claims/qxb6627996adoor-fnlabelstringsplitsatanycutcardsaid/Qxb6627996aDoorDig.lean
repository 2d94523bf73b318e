/-
  The walk of decimalText.
-/
import Derived.Test.Qxb6627996aDoorText
namespace Go.Proofs.Qxb6627996aDoor
open Go.RowKit
open Go.Lib (decDigits nDigits)

/-- What the row holds at place p and on: the digits that were cut off. -/
def Row (u u' p : Nat) (c : Array Value) : Prop :=
  ∃ S : List UInt8, S.length + p = 20 ∧ ((0 < u' ∧ decDigits u = decDigits u' ++ S) ∨ (u' = 0 ∧ decDigits u = S)) ∧ ∀ t (h : t < S.length), c[p + t]? = some (.int .u8 (S[t].toNat : Int))

theorem Row.room {u u' p : Nat} {c : Array Value} (h : Row u u' p c) (hu : u < 18446744073709551616) (h0 : 0 < u') : 1 ≤ p := by
  obtain ⟨S, hl, h1, _⟩ := h
  rcases h1 with ⟨_, e⟩ | ⟨e, _⟩
  · have h2 := congrArg List.length e
    rw [List.length_append, Go.Lib.decDigits_length, Go.Lib.decDigits_length] at h2
    have h3 := Go.Lib.nDigits_pos u'
    have h4 : nDigits u ≤ 20 := Go.Lib.nDigits_le20 _ hu
    omega
  · omega

theorem Row.step {u u' p : Nat} {c : Array Value} (h : Row u u' (p + 1) c) (h0 : 0 < u') (hc : c.size = 20) : Row u (u' / 10) p (c.setIfInBounds p (.int .u8 (48 + (u' : Int) % 10))) := by
  obtain ⟨S, hl, h1, h2⟩ := h
  have hd : (UInt8.ofNat (48 + u' % 10)).toNat = 48 + u' % 10 := by simp; omega
  refine ⟨UInt8.ofNat (48 + u' % 10) :: S, by simp; omega, ?_, ?_⟩
  · rcases h1 with ⟨_, e⟩ | ⟨e, _⟩
    · by_cases hs : u' < 10
      · have e2 : u' % 10 = u' := Nat.mod_eq_of_lt hs
        refine Or.inr ⟨by omega, ?_⟩
        rw [e, e2, Go.Lib.decDigits_one hs]
        rfl
      · refine Or.inl ⟨by omega, ?_⟩
        rw [e, decDigits, dif_neg hs]
        simp
    · omega
  · intro t ht
    cases t with
    | zero =>
      have hp : p < c.size := by omega
      rw [Nat.add_zero, Array.getElem?_setIfInBounds_self_of_lt hp]
      show _ = some (Value.int .u8 ((UInt8.ofNat (48 + u' % 10)).toNat : Int))
      rw [hd]
      norm_cast
    | succ t =>
      rw [Array.getElem?_setIfInBounds_ne (by omega), show p + (t + 1) = p + 1 + t by omega, h2 t (by simpa using ht)]
      rfl

set_option maxHeartbeats 400000 in
theorem text_pos (u : Nat) (w : World) (hu : 0 < u) (hm : u < 18446744073709551616) :
    Calls Tryd.prog 11 #[.int .u64 u] w fun e w' => e = .returned (.string ⟨(decDigits u).toArray⟩) ∧ Below w.heap.size w w' := by
  have hz : ((u : Int) == 0) = false := by rw [beq_eq_false_iff_ne]; omega
  go_enter Tryd.func11, Tryd.ntmps11
  go_wp2
  go_loopw [0, 4] (fun vu vi wr => ∃ (u' p : Nat) (c : Array Value), vu = .int .u64 u' ∧ vi = .int .i64 p ∧ u' ≤ u ∧ p ≤ 20 ∧ c.size = 20 ∧ wr = w.alloc (.cells c 42) ∧ Hid (Row u u' p c)) (fun vu _ _ => (intOf vu).toNat)
  case atStart => exact ⟨u, 20, _, rfl, rfl, Nat.le_refl _, Nat.le_refl _, rfl, rfl, ⟨[], rfl, Or.inl ⟨hu, by simp⟩, fun t h => absurd h (Nat.not_lt_zero _)⟩⟩
  case round =>
    obtain ⟨u', p, c, rfl, rfl, hu', hp, hc, rfl, HR⟩ := hrel
    by_cases hlt : 0 < u'
    · have hp1 : 1 ≤ p := HR.out.room hm hlt
      obtain ⟨p', rfl⟩ : ∃ p', p = p' + 1 := ⟨p - 1, by omega⟩
      have hlt' : (0 : Int) < (u' : Int) := by omega
      have HC : Hid (c.size = 20) := hc
      obtain ⟨v, hcell⟩ : ∃ v, c[p']? = some v := ⟨_, Array.getElem?_eq_getElem (by omega)⟩
      clear hc
      go_wp2
      go_roundw
      case rel => exact ⟨u' / 10, p', _, by simp, rfl, by omega, by omega, by simp [HC.out], rfl, HR.out.step hlt HC.out⟩
      case measure => simp [intOf]; omega
    · obtain ⟨S, hl, hS, hcells⟩ := HR.out
      have hS' : decDigits u = S := by
        rcases hS with ⟨h, _⟩ | ⟨_, h⟩
        · exact absurd h hlt
        · exact h
      have h1 : 1 ≤ S.length := by rw [← hS', Go.Lib.decDigits_length]; exact Go.Lib.nDigits_pos u
      have hcv := run_convert_bytes_back (P := Tryd.prog) (w.alloc (.cells c 42)) 37 9 5 ⟨w.heap.size, p, none⟩ (20 - p) S Tryd.underlying37 Tryd.underlying5 Tryd.underlying9 (fun j hj => by
        rw [Addr.add_lit, World.cell?_alloc_new]
        exact hcells j hj)
      rw [show S.length = 20 - p by omega] at hcv
      have HS : Hid (decDigits u = S) := hS'
      have hp2 : p < 20 := by omega
      have hp3 : ¬ 20 = p := by omega
      have hal : Tryd.prog.arrayLen 42 = 20 := by kernel_rfl
      have hsl : (Instr.sliceAt 42 (.pointer (some ⟨w.heap.size, 0, none⟩)) (some (.int .i64 (p : Int))) none none).run Tryd.prog (w.alloc (.cells c 42)) = .ok (.slice (some ⟨w.heap.size, p, none⟩) (20 - p) (20 - p)) (w.alloc (.cells c 42)) := by
        rw [run_sliceAt_array_l _ 42 _ (by kernel_rfl) .i64 p (by omega) (by rw [hal]; omega), hal]
        have h5 : Tryd.prog.elem 42 = 5 := by kernel_rfl
        rw [h5, Tryd.sizeOf5]
        simp [slicedAt, hp3, Addr.add_lit]
      clear hal
      clear hcells hl hS hS' h1 HR hc
      go_wp2
      go_ret
      exact ⟨by rw [HS.out]; rfl, (Below.refl _ _).alloc (Nat.le_refl _) _⟩

set_option maxHeartbeats 400000 in
/-- decimalText: the decimal digits of its argument. -/
theorem text_any (z : Int) (w : World) (h0 : 0 ≤ z) (hm : z ≤ 18446744073709551615) :
    Calls Tryd.prog 11 #[.int .u64 z] w fun e w' => e = .returned (.string ⟨(decDigits z.toNat).toArray⟩) ∧ Below w.heap.size w w' := by
  obtain ⟨u, rfl⟩ : ∃ u : Nat, z = u := ⟨z.toNat, by omega⟩
  rw [Int.toNat_natCast]
  by_cases hu : 0 < u
  · exact text_pos u w hu (by omega)
  · obtain rfl : u = 0 := by omega
    have e : decDigits 0 = [48] := Go.Lib.decDigits_one (by decide)
    rw [e]
    go_enter Tryd.func11, Tryd.ntmps11
    go_wp2
    go_ret
    exact ⟨rfl, Below.refl _ _⟩

end Go.Proofs.Qxb6627996aDoor
