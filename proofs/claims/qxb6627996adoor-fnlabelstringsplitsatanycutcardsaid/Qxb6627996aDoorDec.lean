/-
  The walk of labelTextDecodes at a label's text.
-/
import Derived.Test.Qxb6627996aDoorRead
namespace Go.Proofs.Qxb6627996aDoor
open Go.RowKit
open Go.Lib (decDigits)

/-- A slice of n numbers of one kind: Z says which. Nothing is asked of an empty one. -/
def NR (k : IntKind) (w : World) (a : Option Addr) (n : Nat) (Z : Nat → Int) : Prop :=
  n = 0 ∨ ∃ b off, a = some ⟨b, off, none⟩ ∧ b < w.heap.size ∧ ∀ i, i < n → w.cell? ⟨b, off + i, none⟩ = some (.int k (Z i))

theorem NR.below {k : IntKind} {w w' : World} {a : Option Addr} {n : Nat} {Z : Nat → Int} (h : NR k w a n Z) (hb : Below w.heap.size w w') : NR k w' a n Z := by
  rcases h with h | ⟨b, off, rfl, hlt, hZ⟩
  · exact Or.inl h
  · exact Or.inr ⟨b, off, rfl, Nat.lt_of_lt_of_le hlt hb.size, fun i hi => (hb.cell (by exact hlt)).trans (hZ i hi)⟩

/-- The numbers fit their kinds. -/
structure Fits (n : Nat) (R C : Nat → Int) : Prop where
  r0 : ∀ i, i < n → 0 ≤ R i
  r1 : ∀ i, i < n → R i ≤ 9223372036854775807
  c0 : ∀ i, i < n → 0 ≤ C i
  c1 : ∀ i, i < n → C i ≤ 18446744073709551615

/-- Where the k-th part stands in the text: the places of its comma, its two numerals, its colon. -/
theorem part_places {R C : Nat → Int} {n k : Nat} {s : ByteArray} (hs : s.data.toList = txt R C n) (hk : k < n) (hf : Fits n R C) :
    ∃ m1 m2 : Nat, (k ≠ 0 → ∃ h : (txt R C k).length < s.size, s[(txt R C k).length].toNat = 44) ∧
      Num s ((txt R C k).length + (sep k).length) (R k).toNat m1 ∧
      (∃ h : (txt R C k).length + (sep k).length + m1 < s.size, s[(txt R C k).length + (sep k).length + m1].toNat = 58) ∧
      Num s ((txt R C k).length + (sep k).length + m1 + 1) (C k).toNat m2 ∧
      (txt R C (k + 1)).length = (txt R C k).length + (sep k).length + m1 + 1 + m2 := by
  obtain ⟨r, e, hr⟩ := txt_split R C k n hk
  have hr0 := hf.r0 k hk
  have hr1 := hf.r1 k hk
  have hc0 := hf.c0 k hk
  have hc1 := hf.c1 k hk
  have e0 : s.data.toList = txt R C k ++ (sep k ++ (decDigits (R k).toNat ++ 58 :: (decDigits (C k).toNat ++ r))) := by
    rw [hs, e]
    simp [part]
  have d1 : s.data.toList.drop ((txt R C k).length + (sep k).length) = decDigits (R k).toNat ++ 58 :: (decDigits (C k).toNat ++ r) := by
    rw [e0, ← List.append_assoc, ← List.length_append, List.drop_left]
  have d2 : s.data.toList.drop ((txt R C k).length + (sep k).length + (decDigits (R k).toNat).length + 1) = decDigits (C k).toNat ++ r := by
    rw [Nat.add_assoc ((txt R C k).length + (sep k).length), ← List.drop_drop, d1, ← List.drop_drop, List.drop_left]
    rfl
  refine ⟨(decDigits (R k).toNat).length, (decDigits (C k).toNat).length, fun hk0 => ?_, num_of d1 (by omega) (Or.inr ⟨58, _, rfl, by decide⟩), ?_, num_of d2 (by omega) ?_, ?_⟩
  · have d0 : s.data.toList.drop (txt R C k).length = sep k ++ (decDigits (R k).toNat ++ 58 :: (decDigits (C k).toNat ++ r)) := by rw [e0, List.drop_left]
    have hsep : sep k = [44] := by unfold sep; rw [if_neg hk0]
    rw [hsep] at d0
    obtain ⟨h1, h2⟩ := byte_at d0 0 (by simp)
    exact ⟨h1, by rw [show s[(txt R C k).length] = s[(txt R C k).length + 0] from rfl, h2]; rfl⟩
  · obtain ⟨h1, h2⟩ := byte_at d1 (decDigits (R k).toNat).length (by simp)
    refine ⟨h1, ?_⟩
    rw [h2, List.getElem_append_right (Nat.le_refl _)]
    simp
  · rcases hr with rfl | ⟨r', rfl⟩
    · exact Or.inl rfl
    · exact Or.inr ⟨44, r', rfl, by decide⟩
  · simp only [txt, part, List.length_append, List.length_cons]
    omega

/-- readDecimal, its numbers said as the walk says them. -/
theorem read_z (s : ByteArray) (p n m : Nat) (z v r : Int) (w : World) (hs : s.size ≤ 4194304) (h : Num s p n m) (hv : (n : Int) = v) (hz : z = (p : Int)) (hr : r = (p : Int) + (m : Int)) :
    Calls Tryd.prog 15 #[.string s, .int .i64 z] w fun e w' => e = .returned (.tuple #[.int .u64 v, .int .i64 r, .bool true]) ∧ w = w' := by
  subst hv hz
  have e : r = ((p + m : Nat) : Int) := by omega
  subst e
  exact read_any s p n m w hs h

set_option maxHeartbeats 400000 in
theorem dec_zero (a a' : Option Addr) (c n' c' : Nat) (w : World) :
    Calls Tryd.prog 8 #[.string ⟨#[48]⟩, .slice a 0 c, .slice a' n' c'] w fun e w' => e = .returned (.bool true) ∧ w = w' := by
  go_enter Tryd.func8, Tryd.ntmps8
  go_wp2
  go_ret
  exact ⟨rfl, rfl⟩

set_option maxRecDepth 20000 in
set_option maxHeartbeats 1000000 in
theorem dec_some (b off b' off' n c c' : Nat) (R C : Nat → Int) (s : ByteArray) (w : World) (hn : n ≤ 65536) (hn0 : 0 < n) (hs : s.data.toList = txt R C n) (hz : s.size ≤ 4194304) (hf : Fits n R C)
    (hR : ∀ i, i < n → w.cell? ⟨b, off + i, none⟩ = some (.int .i64 (R i))) (hC : ∀ i, i < n → w.cell? ⟨b', off' + i, none⟩ = some (.int .u64 (C i))) :
    Calls Tryd.prog 8 #[.string s, .slice (some ⟨b, off, none⟩) n c, .slice (some ⟨b', off', none⟩) n c'] w fun e w' => e = .returned (.bool true) ∧ w = w' := by
  have HS : Hid (s.data.toList = txt R C n) := hs
  have hne : ((n : Int) == 0) = false := by rw [beq_eq_false_iff_ne]; omega
  clear hs
  go_enter Tryd.func8, Tryd.ntmps8
  go_wp2
  clear hne
  go_loop [8, 9] (fun pos i => ∃ k q : Nat, k ≤ n ∧ i = .int .i64 k ∧ pos = .int .i64 q ∧ Hid (q = (txt R C k).length)) (fun _ i => n - (intOf i).toNat)
  case atStart => exact ⟨0, 0, Nat.zero_le _, rfl, rfl, rfl⟩
  case round =>
    obtain ⟨k, q, hk, rfl, rfl, HQ⟩ := hrel
    by_cases hlt : k < n
    · obtain ⟨m1, m2, hcom, hN1, hcol, hN2, hlen⟩ := part_places HS.out hlt hf
      rw [← HQ.out] at hcom hN1 hcol hN2 hlen
      have HL : Hid ((txt R C (k + 1)).length = q + (sep k).length + m1 + 1 + m2) := hlen
      have cR := hR k hlt
      have cC := hC k hlt
      have r0 := hf.r0 k hlt
      have r1 := hf.r1 k hlt
      have c0 := hf.c0 k hlt
      have c1 := hf.c1 k hlt
      have eR : (((R k).toNat : Nat) : Int) = R k := by omega
      have eC : (((C k).toNat : Nat) : Int) = C k := by omega
      clear hlen hR hC hf HQ
      have hN1s := hN1.fits
      have hN2s := hN2.fits
      obtain ⟨hq2, h58⟩ := hcol
      obtain ⟨q1, hq1⟩ : ∃ q1, q1 = q + (sep k).length := ⟨_, rfl⟩
      rw [← hq1] at hN1s hN2s
      have e58 : ((s[q + (sep k).length + m1].toNat : Int) != 58) = false := by rw [bne_eq_false_iff_eq]; omega
      have HQ1 : Hid (q1 = q + (sep k).length) := hq1
      have E58 : Hid (∃ h : q1 + m1 < s.size, ((s[q1 + m1].toNat : Int) != 58) = false) := by subst hq1; exact ⟨hq2, e58⟩
      rw [← hq1] at hN1 hN2
      clear h58 e58 hq2 hq1
      have C1 := read_z s q1 _ m1 q1 _ (q1 + m1) w hz hN1 eR rfl (by omega)
      have C2 := read_z s (q1 + m1 + 1) _ m2 (q1 + m1 + 1) _ (q1 + m1 + 1 + m2) w hz hN2 eC (by omega) (by omega)
      obtain ⟨hq2, e58⟩ := E58.out
      by_cases hk0 : k = 0
      · have hkt : ¬ (0 : Int) < (k : Int) := by omega
        have hq : q1 = q := by have := HQ1.out; rw [show (sep k).length = 0 by unfold sep; rw [if_pos hk0]; rfl] at this; omega
        subst hq
        clear hcom hN1 hN2 eR eC hk0
        go_wp2_with fail
        refine C1.mono ?_
        rintro e w' ⟨rfl, rfl⟩
        go_wp2_with fail
        refine C2.mono ?_
        rintro e w' ⟨rfl, rfl⟩
        clear C1 C2 e58 c0 c1 r0 r1 cR
        go_wp2
        go_round
        case rel => exact ⟨k + 1, q1 + m1 + 1 + m2, by omega, by go_num, by go_num, by show _ = _; have h1 := HL.out; have h2 := HQ1.out; omega⟩
        case measure => simp [intOf]; omega
      · have hkt : (0 : Int) < (k : Int) := by omega
        obtain ⟨hq0, h44⟩ := hcom hk0
        have e44 : ((s[q].toNat : Int) != 44) = false := by rw [bne_eq_false_iff_eq]; omega
        have hq : q1 = q + 1 := by have := HQ1.out; rw [show (sep k).length = 1 by unfold sep; rw [if_neg hk0]; rfl] at this; omega
        subst hq
        have ez : ((q + 1 : Nat) : Int) = (q : Int) + 1 := by omega
        rw [ez] at C1 C2
        clear hcom hN1 hN2 eR eC hk0 h44 ez
        go_wp2_with fail
        refine C1.mono ?_
        rintro e w' ⟨rfl, rfl⟩
        go_wp2_with fail
        refine C2.mono ?_
        rintro e w' ⟨rfl, rfl⟩
        clear C1 C2 e58 c0 c1 r0 r1 cR
        go_wp2
        go_round
        case rel => exact ⟨k + 1, q + 1 + m1 + 1 + m2, by omega, by go_num, by go_num, by show _ = _; have h1 := HL.out; have h2 := HQ1.out; omega⟩
        case measure => simp [intOf]; omega
    · obtain rfl : k = n := by omega
      have hq : ((q : Int) == (s.size : Int)) = true := by
        rw [beq_iff_eq, HQ.out, ← HS.out, list_size]
      go_wp2
      go_ret
      exact ⟨rfl, rfl⟩

/-- The text's length is bounded. -/
theorem lab_len (R C : Nat → Int) (n : Nat) (hf : Fits n R C) (hn : n ≤ 65536) : (lab R C n).length ≤ 4194304 := by
  have key : ∀ k, k ≤ n → (txt R C k).length ≤ k * 42 := by
    intro k
    induction k with
    | zero => intro _; exact Nat.le_refl _
    | succ k ih =>
      intro h
      have h1 := ih (by omega)
      have h2 := part_len R C k (by have := hf.r1 k (by omega); omega) (by have := hf.c1 k (by omega); omega)
      have h3 : (sep k).length ≤ 1 := by unfold sep; split <;> simp
      simp only [txt, List.length_append]
      omega
  unfold lab
  split
  · simp
  · have := key n (Nat.le_refl _)
    omega

theorem dec_any (n c c' : Nat) (a a' : Option Addr) (R C : Nat → Int) (w : World) (hn : n ≤ 65536) (hf : Fits n R C) (hR : NR .i64 w a n R) (hC : NR .u64 w a' n C) :
    Calls Tryd.prog 8 #[.string ⟨(lab R C n).toArray⟩, .slice a n c, .slice a' n c'] w fun e w' => e = .returned (.bool true) ∧ w = w' := by
  by_cases h0 : n = 0
  · subst h0
    exact dec_zero a a' c 0 c' w
  · rcases hR with h | ⟨b, off, rfl, _, hR⟩
    · exact absurd h h0
    rcases hC with h | ⟨b', off', rfl, _, hC⟩
    · exact absurd h h0
    have hl := lab_len R C n hf hn
    exact dec_some b off b' off' n c c' R C _ w hn (by omega) (by simp [lab, h0]) (by show (lab R C n).toArray.size ≤ _; simpa using hl) hf hR hC

end Go.Proofs.Qxb6627996aDoor
