/-
  The base of the seat's proofs: outputs as plain data, where they lie in memory.
-/
import Derived.Test.Qxb6634862aRows
import Derived.WalkKit
import Derived.WalkSpells
import Derived.WalkLawsBesides
import Derived.Deep.QuietTactic
import Derived.BigQuiet
namespace Go.Proofs.Qxb6634862a
open Go.RowKit

/-! ### A region that draws its order, whose operations read and whose callees lay new blocks alone -/

/-- How a world has moved on: its count of draws, and the blocks that were laid behind it. -/
structure Rg where
  d : Nat
  os : Array Obj

def blw (w : World) (p : Rg) : World := { w with drawn := p.d, heap := w.heap ++ p.os }

theorem blw_below (w : World) (p : Rg) : Below w.heap.size w (blw w p) :=
  ⟨rfl, rfl, rfl, by simp [blw], fun k hk => by simp [blw, Array.getElem?_append, hk]⟩

theorem below_blw {w w' : World} (h : Below w.heap.size w w') : ∃ p : Rg, w' = blw w p := by
  refine ⟨⟨w'.drawn, w'.heap.extract w.heap.size w'.heap.size⟩, ?_⟩
  have eh : w'.heap = w.heap ++ w'.heap.extract w.heap.size w'.heap.size := by
    apply Array.ext_getElem?
    intro k
    have hs := h.size
    by_cases hk : k < w.heap.size
    · rw [Array.getElem?_append_left hk]; exact h.block k hk
    · rw [Array.getElem?_append_right (by omega), Array.getElem?_extract]
      by_cases hk2 : k < w'.heap.size
      · rw [if_pos (by omega)]; congr 1; omega
      · rw [if_neg (by omega), Array.getElem?_eq_none (by omega)]
  have h1 := h.os
  have h2 := h.tape
  have h3 := h.output
  cases w'
  simp only at eh h1 h2 h3
  subst h1 h2 h3
  unfold blw
  congr 1

theorem region_blw {P : Program} {id : Nat} {Q : Exit → Act → World → Prop} {a : Act} {w : World} {l : List Oper} (hm : P.follows .mixedOrders = true) (hB : Region.lexB .any l.toArray = true)
    (h : wpQuiet P l.toArray (fun w' => ∃ p : Rg, w' = blw w p) (fun a' => ∀ w', (∃ p : Rg, w' = blw w p) → Q .normal a' w') l a) : (Code.region id l.toArray true).wp P Q a w :=
  wp_region_quiet (C := fun w' => ∃ p : Rg, w' = blw w p) hm hB (below_blw ((Below.refl _ w).drew)) (by simpa using h)

theorem blw_cell {w : World} {a : Addr} {v : Value} (h : w.cell? a = some v) (p : Rg) : (blw w p).cell? a = some v := by
  rw [(blw_below w p).cell (World.block_lt_of_cell? _ _ h)]; exact h

theorem blw_calls {P : Program} {f : FuncId} {args : Array Value} {w : World} {p : Rg} {v : Value}
    (h : Calls P f args (blw w p) fun e w' => e = .returned v ∧ Below (blw w p).heap.size (blw w p) w') : Calls P f args (blw w p) fun e w' => e = .returned v ∧ ∃ q : Rg, w' = blw w q :=
  h.mono fun _ _ ⟨he, hb⟩ => ⟨he, below_blw ((blw_below w p).trans (hb.mono (blw_below w p).size))⟩

theorem _root_.Go.RowKit.Below.step {w w1 w2 : World} (h : Below w.heap.size w w1) (k : Below w1.heap.size w1 w2) : Below w.heap.size w w2 := h.trans (k.mono h.size)

/-! ### Bytes -/

/-- A slice of bytes that can be read: Z says which. Nothing is asked of an empty one. -/
def Rd (w : World) (a : Option Addr) (l : Nat) (Z : Nat → Int) : Prop :=
  l = 0 ∨ ∃ b off, a = some ⟨b, off, none⟩ ∧ b < w.heap.size ∧ ∀ i, i < l → w.cell? ⟨b, off + i, none⟩ = some (.int .u8 (Z i))

def eqB (l l' : Nat) (Z Z' : Nat → Int) : Bool := decide (l = l' ∧ ∀ i, i < l → Z i = Z' i)

set_option maxHeartbeats 400000 in
theorem sameBytes_any (a a' : Option Addr) (l c l' c' : Nat) (Z Z' : Nat → Int) (w : World) (hl : l ≤ 1048576) (hl' : l' ≤ 1048576) (h : Rd w a l Z) (h' : Rd w a' l' Z') :
    Calls Try.prog 12 #[.slice a l c, .slice a' l' c'] w fun e w' => e = .returned (.bool (eqB l l' Z Z')) ∧ ∃ n, w' = w.drewN n := by
  by_cases hll : l = l'
  · subst hll
    by_cases h0 : l = 0
    · subst h0
      have e : eqB 0 0 Z Z' = true := by simp [eqB]
      rw [e]
      clear e
      go_enter Try.func12, Try.ntmps12
      go_wp2
      refine wp_loop_rounds 1 ?_
      rw [rounds_succ]
      go_wp2
      go_ret
      exact ⟨rfl, 0, rfl⟩
    · rcases h with h | ⟨b, off, rfl, hb, hZ⟩
      · exact absurd h h0
      rcases h' with h' | ⟨b', off', rfl, hb', hZ'⟩
      · exact absurd h' h0
      go_enter Try.func12, Try.ntmps12
      go_wp2
      go_loopw [5] (fun i wr => ∃ k : Nat, k ≤ l ∧ i = .int .i64 k ∧ Hid (∀ j, j < k → Z j = Z' j) ∧ ∃ n, wr = w.drewN n) (fun i _ => l - (intOf i).toNat)
      case atStart => exact ⟨0, Nat.zero_le _, rfl, fun j hj => absurd hj (Nat.not_lt_zero _), 0, rfl⟩
      case round =>
        obtain ⟨k, hk, rfl, HE, n, rfl⟩ := hrel
        by_cases hlt : k < l
        · have c1 := hZ k hlt
          have c2 := hZ' k hlt
          clear hZ hZ'
          go_wp2
          go_quiet (fail)
          go_wp2
          · go_ret
            have hne : (Z k != Z' k) = true := by assumption
            have e : eqB l l Z Z' = false := by
              unfold eqB
              rw [decide_eq_false]
              intro h
              have := h.2 k hlt
              simp [this] at hne
            rw [e]
            exact ⟨rfl, n + nq, by simp⟩
          · have heq : (Z k != Z' k) = false := by assumption
            have heq' : Z k = Z' k := by simpa using heq
            go_roundw
            case rel => exact ⟨k + 1, by omega, by go_num, fun j hj => by
                rcases Nat.lt_succ_iff_lt_or_eq.1 hj with h | rfl
                · exact HE.out j h
                · exact heq', n + nq, by simp⟩
            case measure => simp [intOf]; omega
        · go_wp2
          go_ret
          have e : eqB l l Z Z' = true := by
            unfold eqB
            rw [decide_eq_true]
            exact ⟨rfl, fun i hi => HE.out i (by omega)⟩
          rw [e]
          exact ⟨rfl, n, rfl⟩
  · have e : eqB l l' Z Z' = false := by simp [eqB, hll]
    rw [e]
    clear e
    go_enter Try.func12, Try.ntmps12
    go_wp2
    go_ret
    exact ⟨rfl, 0, rfl⟩

theorem Rd.below {w w' : World} {a : Option Addr} {l : Nat} {Z : Nat → Int} (h : Rd w a l Z) (hb : Below w.heap.size w w') : Rd w' a l Z := by
  rcases h with h | ⟨b, off, rfl, hlt, hZ⟩
  · exact Or.inl h
  · exact Or.inr ⟨b, off, rfl, Nat.lt_of_lt_of_le hlt hb.size, fun i hi => (hb.cell hlt).trans (hZ i hi)⟩

/-- An output: its height, and its script's slice. -/
structure Ot where
  h : Int
  a : Option Addr
  l : Nat
  c : Nat
  z : Nat → Int

def Ot.agg (o : Ot) : Value := .agg #[.int .u64 o.h, .slice o.a o.l o.c]

/-- What is asked of an output: its height fits, its script can be read and is not long. -/
structure Ot.ok (M : Nat) (w : World) (o : Ot) : Prop where
  lo : 0 ≤ o.h
  hi : o.h ≤ 18446744073709551615
  len : o.l ≤ M
  rd : Rd w o.a o.l o.z

theorem Ot.ok.below {M : Nat} {w w' : World} {o : Ot} (h : o.ok M w) (hb : Below w.heap.size w w') : o.ok M w' := ⟨h.lo, h.hi, h.len, h.rd.below hb⟩

def nth (L : List Ot) (i : Nat) : Ot := L.getD i ⟨0, none, 0, 0, fun _ => 0⟩

/-- The outputs L lie behind the address a, two cells each. -/
structure Row (M : Nat) (w : World) (a : Option Addr) (L : List Ot) : Prop where
  ok : ∀ i, i < L.length → (nth L i).ok M w
  at_ : L.length = 0 ∨ ∃ b off, a = some ⟨b, off, none⟩ ∧ b < w.heap.size ∧ ∀ i, i < L.length →
    w.cell? ⟨b, off + i * 2, none⟩ = some (.int .u64 (nth L i).h) ∧ w.cell? ⟨b, off + i * 2 + 1, none⟩ = some (.slice (nth L i).a (nth L i).l (nth L i).c)

theorem Row.below {M : Nat} {w w' : World} {a : Option Addr} {L : List Ot} (h : Row M w a L) (hb : Below w.heap.size w w') : Row M w' a L := by
  refine ⟨fun i hi => (h.ok i hi).below hb, ?_⟩
  rcases h.at_ with h0 | ⟨b, off, rfl, hlt, hc⟩
  · exact Or.inl h0
  · exact Or.inr ⟨b, off, rfl, Nat.lt_of_lt_of_le hlt hb.size, fun i hi => ⟨(hb.cell (by exact hlt)).trans (hc i hi).1, (hb.cell (by exact hlt)).trans (hc i hi).2⟩⟩

theorem Row.tight {M N : Nat} {w : World} {a : Option Addr} {L : List Ot} (h : Row M w a L) (hl : ∀ i, i < L.length → (nth L i).l ≤ N) : Row N w a L :=
  ⟨fun i hi => ⟨(h.ok i hi).lo, (h.ok i hi).hi, hl i hi, (h.ok i hi).rd⟩, h.at_⟩

/-- Do two outputs read alike? -/
def eqO (h h' : Int) (l l' : Nat) (Z Z' : Nat → Int) : Bool := decide (h = h') && eqB l l' Z Z'

theorem eqO_refl (h : Int) (l : Nat) (Z : Nat → Int) : eqO h h l l Z Z = true := by simp [eqO, eqB]

set_option maxHeartbeats 400000 in
theorem sameOutput_any (h h' : Int) (a a' : Option Addr) (l c l' c' : Nat) (Z Z' : Nat → Int) (w : World) (hl : l ≤ 1048576) (hl' : l' ≤ 1048576) (r : Rd w a l Z) (r' : Rd w a' l' Z') :
    Calls Try.prog 8 #[.agg #[.int .u64 h, .slice a l c], .agg #[.int .u64 h', .slice a' l' c']] w fun e w' => e = .returned (.bool (eqO h h' l l' Z Z')) ∧ Below w.heap.size w w' := by
  have hB : ∀ o1 o2, Below w.heap.size w ((w.alloc o1).alloc o2) := fun o1 o2 => ((Below.refl _ _).alloc (Nat.le_refl _) _).alloc (by simp) _
  by_cases hh : h = h'
  · subst hh
    have e : eqO h h l l' Z Z' = eqB l l' Z Z' := by simp [eqO]
    rw [e]
    clear e
    go_enter Try.func8, Try.ntmps8
    go_wp2_with (go_at_call 12; refine (sameBytes_any _ _ _ _ _ _ _ _ _ hl hl' (r.below (hB _ _)) (r'.below (hB _ _))).mono ?_; rintro e w' ⟨rfl, n, rfl⟩)
    go_ret
    exact ⟨rfl, below_drewN (hB _ _) _⟩
  · have hd : (h == h') = false := by simpa using hh
    have e : eqO h h' l l' Z Z' = false := by simp [eqO, hh]
    rw [e]
    clear e
    go_enter Try.func8, Try.ntmps8
    go_wp2
    go_ret
    exact ⟨rfl, hB _ _⟩

/-- The program's test, in plain words. -/
def deep (h tip d : Int) : Bool := decide (h ≤ tip) && decide (d ≤ tip - h)

set_option maxHeartbeats 400000 in
theorem deepEnough_any (h tip d : Int) (w : World) (h0 : 0 ≤ h) (h1 : h ≤ 18446744073709551615) (t0 : 0 ≤ tip) (t1 : tip ≤ 18446744073709551615) :
    Calls Try.prog 13 #[.int .u64 h, .int .u64 tip, .int .u64 d] w fun e w' => e = .returned (.bool (deep h tip d)) ∧ w = w' := by
  unfold deep
  by_cases hh : tip < h
  · go_enter Try.func13, Try.ntmps13
    go_wp2
    go_ret
    exact ⟨by rw [decide_eq_false (by omega)]; rfl, rfl⟩
  · have hle : h ≤ tip := by omega
    go_enter Try.func13, Try.ntmps13
    go_wp2
    go_ret
    exact ⟨by simp, rfl⟩

/-- A bool is returned, of which p holds. (Behind a name, so that the walk does not take it apart.) -/
def RetB (p : Bool → World → Prop) (e : Ending) (w' : World) : Prop := ∃ r : Bool, e = .returned (.bool r) ∧ p r w'
theorem RetB.mk {p : Bool → World → Prop} {e : Ending} {w' : World} (r : Bool) (he : e = .returned (.bool r)) (h : p r w') : RetB p e w' := ⟨r, he, h⟩

set_option maxHeartbeats 400000 in
theorem zzBytes5 (a : Option Addr) (c : Nat) (L : List Ot) (t d k : Value) (w : World) (h : Row 9223372036854775807 w a L) (hn : L.length ≤ 9223372036854775807) :
    Calls Try.prog 5 #[.slice a L.length c, t, d, k] w (RetB fun r w' => w = w' ∧ (r = true → ∀ i, i < L.length → (nth L i).l ≤ 1048576)) := by
  by_cases hbig : 1048576 < L.length
  · go_enter Try.func5, Try.ntmps5
    go_wp2
    go_ret
    exact .mk false rfl ⟨rfl, fun h => by simp at h⟩
  · rcases h.at_ with h0 | ⟨b, off, rfl, hb, hc⟩
    · have hk := h.ok
      obtain ⟨n, hn0⟩ : ∃ n, n = L.length := ⟨_, rfl⟩
      rw [← hn0] at h0 hbig hn hk ⊢
      clear hn0
      subst h0
      go_enter Try.func5, Try.ntmps5
      go_wp2
      refine wp_loop_rounds 1 ?_
      rw [rounds_succ]
      go_wp2
      go_ret
      exact .mk true rfl ⟨rfl, fun _ i hi => absurd hi (Nat.not_lt_zero _)⟩
    · have hk := h.ok
      clear h
      obtain ⟨n, hn0⟩ : ∃ n, n = L.length := ⟨_, rfl⟩
      rw [← hn0] at hc hbig hn hk ⊢
      clear hn0
      go_enter Try.func5, Try.ntmps5
      go_wp2
      go_loop [9, 10] (fun z i => ∃ k s : Nat, k ≤ n ∧ s ≤ 1048576 ∧ i = .int .i64 k ∧ z = .int .i64 s ∧ ∀ j, j < k → (nth L j).l ≤ 1048576) (fun _ i => n - (intOf i).toNat)
      case atStart => exact ⟨0, n, Nat.zero_le _, by omega, rfl, rfl, fun j hj => absurd hj (Nat.not_lt_zero _)⟩
      case round =>
        obtain ⟨k, s, hkn, hs, rfl, rfl, hd⟩ := hrel
        by_cases hlt : k < n
        · have c2 := (hc k hlt).2
          have hlen := (hk k hlt).len
          have HD : Hid (∀ j, j < k → (nth L j).l ≤ 1048576) := hd
          clear hc hk hd
          go_wp2
          · go_ret
            exact .mk false rfl ⟨rfl, fun h => by simp at h⟩
          · go_ret
            exact .mk false rfl ⟨rfl, fun h => by simp at h⟩
          · have h1 : ((nth L k).l : Int) ≤ 1048576 := by assumption
            have h2 : (s : Int) + ((nth L k).l : Int) ≤ 1048576 := by assumption
            go_round
            case rel => exact ⟨k + 1, s + (nth L k).l, by omega, by omega, by go_num, by go_num, fun j hj => by
                rcases Nat.lt_succ_iff_lt_or_eq.1 hj with h | rfl
                · exact HD.out j h
                · omega⟩
            case measure => simp [intOf]; omega
        · go_wp2
          go_ret
          exact .mk true rfl ⟨rfl, fun _ i hi => hd i (by omega)⟩

set_option maxHeartbeats 400000 in
theorem zzBytes10 (a : Option Addr) (c : Nat) (L : List Ot) (t d k : Value) (w : World) (h : Row 9223372036854775807 w a L) (hn : L.length ≤ 9223372036854775807) :
    Calls Try.prog 10 #[.slice a L.length c, t, d, k] w (RetB fun r w' => w = w' ∧ (r = true → ∀ i, i < L.length → (nth L i).l ≤ 1048576)) := by
  by_cases hbig : 1048576 < L.length
  · go_enter Try.func10, Try.ntmps10
    go_wp2
    go_ret
    exact .mk false rfl ⟨rfl, fun h => by simp at h⟩
  · rcases h.at_ with h0 | ⟨b, off, rfl, hb, hc⟩
    · have hk := h.ok
      obtain ⟨n, hn0⟩ : ∃ n, n = L.length := ⟨_, rfl⟩
      rw [← hn0] at h0 hbig hn hk ⊢
      clear hn0
      subst h0
      go_enter Try.func10, Try.ntmps10
      go_wp2
      refine wp_loop_rounds 1 ?_
      rw [rounds_succ]
      go_wp2
      go_ret
      exact .mk true rfl ⟨rfl, fun _ i hi => absurd hi (Nat.not_lt_zero _)⟩
    · have hk := h.ok
      clear h
      obtain ⟨n, hn0⟩ : ∃ n, n = L.length := ⟨_, rfl⟩
      rw [← hn0] at hc hbig hn hk ⊢
      clear hn0
      go_enter Try.func10, Try.ntmps10
      go_wp2
      go_loop [9, 10] (fun z i => ∃ k s : Nat, k ≤ n ∧ s ≤ 1048576 ∧ i = .int .i64 k ∧ z = .int .i64 s ∧ ∀ j, j < k → (nth L j).l ≤ 1048576) (fun _ i => n - (intOf i).toNat)
      case atStart => exact ⟨0, n, Nat.zero_le _, by omega, rfl, rfl, fun j hj => absurd hj (Nat.not_lt_zero _)⟩
      case round =>
        obtain ⟨k, s, hkn, hs, rfl, rfl, hd⟩ := hrel
        by_cases hlt : k < n
        · have c2 := (hc k hlt).2
          have hlen := (hk k hlt).len
          have HD : Hid (∀ j, j < k → (nth L j).l ≤ 1048576) := hd
          clear hc hk hd
          go_wp2
          · go_ret
            exact .mk false rfl ⟨rfl, fun h => by simp at h⟩
          · go_ret
            exact .mk false rfl ⟨rfl, fun h => by simp at h⟩
          · have h1 : ((nth L k).l : Int) ≤ 1048576 := by assumption
            have h2 : (s : Int) + ((nth L k).l : Int) ≤ 1048576 := by assumption
            go_round
            case rel => exact ⟨k + 1, s + (nth L k).l, by omega, by omega, by go_num, by go_num, fun j hj => by
                rcases Nat.lt_succ_iff_lt_or_eq.1 hj with h | rfl
                · exact HD.out j h
                · omega⟩
            case measure => simp [intOf]; omega
        · go_wp2
          go_ret
          exact .mk true rfl ⟨rfl, fun _ i hi => hd i (by omega)⟩

end Go.Proofs.Qxb6634862a
