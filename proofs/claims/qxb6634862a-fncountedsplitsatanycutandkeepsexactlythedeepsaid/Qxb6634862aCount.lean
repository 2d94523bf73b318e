/-
  Counted: the outputs that lie deep enough, in a new row.
-/
import Derived.Test.Qxb6634862aMake
namespace Go.Proofs.Qxb6634862a
open Go.RowKit

def cellsOf : List Ot → List Value
  | [] => []
  | o :: l => .int .u64 o.h :: .slice o.a o.l o.c :: cellsOf l

theorem cellsOf_length : ∀ l : List Ot, (cellsOf l).length = l.length * 2
  | [] => rfl
  | o :: l => by simp [cellsOf, cellsOf_length l]; omega

theorem cellsOf_append : ∀ l m : List Ot, cellsOf (l ++ m) = cellsOf l ++ cellsOf m
  | [], m => rfl
  | o :: l, m => by simp [cellsOf, cellsOf_append l m]

theorem cellsOf_at : ∀ (l : List Ot) (i : Nat), i < l.length → (cellsOf l)[i * 2]? = some (.int .u64 (nth l i).h) ∧ (cellsOf l)[i * 2 + 1]? = some (.slice (nth l i).a (nth l i).l (nth l i).c)
  | [], i, h => absurd h (Nat.not_lt_zero _)
  | o :: l, 0, _ => ⟨rfl, rfl⟩
  | o :: l, i + 1, h => by
    have := cellsOf_at l i (by simpa using h)
    have e : (i + 1) * 2 = i * 2 + 1 + 1 := by omega
    rw [e]
    simp only [cellsOf, List.getElem?_cons_succ]
    exact this

def kept (L : List Ot) (tip d : Int) (k : Nat) : List Ot := (L.take k).filter fun o => deep o.h tip d

theorem kept_le (L : List Ot) (tip d : Int) (k : Nat) : (kept L tip d k).length ≤ k :=
  Nat.le_trans (List.length_filter_le _ _) (List.length_take_le _ _)

theorem take_nth (L : List Ot) (k : Nat) (h : k < L.length) : L.take (k + 1) = L.take k ++ [nth L k] := by
  rw [List.take_succ_eq_append_getElem h]
  simp [nth, List.getD, h]

theorem kept_yes (L : List Ot) (tip d : Int) (k : Nat) (h : k < L.length) (hd : deep (nth L k).h tip d = true) : kept L tip d (k + 1) = kept L tip d k ++ [nth L k] := by
  unfold kept
  rw [take_nth L k h, List.filter_append]
  simp [hd]

theorem kept_no (L : List Ot) (tip d : Int) (k : Nat) (h : k < L.length) (hd : deep (nth L k).h tip d = false) : kept L tip d (k + 1) = kept L tip d k := by
  unfold kept
  rw [take_nth L k h, List.filter_append]
  simp [hd]

theorem own_ge {w : World} {base : Nat} {e size : Nat} {v : Value} {n : Nat} {xs : List Value} (h : w.ownsRow base e size v n xs) : ∀ k, v.ownBlock = some k → base ≤ k := by
  intro k hk
  rcases h.2 with ⟨rfl, _⟩ | ⟨g, cap, cur, rfl, hg, _⟩
  · simp [Value.ownBlock] at hk
  · simp [Value.ownBlock] at hk
    omega

set_option maxHeartbeats 400000 in
theorem counted_loop (b off n c : Nat) (L : List Ot) (tip d : Int) (w : World) (hnL : n = L.length) (hn : n ≤ 65536) (hb0 : b < w.heap.size) (d0 : 0 ≤ d) (dt : d ≤ tip) (t1 : tip ≤ 18446744073709551615)
    (hok : ∀ i, i < n → 0 ≤ (nth L i).h)
    (hc : ∀ i, i < n → w.cell? ⟨b, off + i * 2, none⟩ = some (.int .u64 (nth L i).h) ∧ w.cell? ⟨b, off + i * 2 + 1, none⟩ = some (.slice (nth L i).a (nth L i).l (nth L i).c)) :
    Calls Try.prog 7 #[.slice (some ⟨b, off, none⟩) n c, .int .u64 tip, .int .u64 d] w fun e w' => ∃ v, e = .returned v ∧ w'.ownsRow w.heap.size 32 2 v (kept L tip d n).length (cellsOf (kept L tip d n)) ∧ Below w.heap.size w w' := by
  obtain ⟨i0, hi, hz0, hz1, hz2⟩ := info_parts info32
  have HN : Hid (n = L.length) := hnL
  clear hnL
  go_enter Try.func7, Try.ntmps7
  go_wp2
  go_loopw [7, 16] (fun v i wr => ∃ k : Nat, k ≤ n ∧ i = .int .i64 k ∧ wr.ownsRow w.heap.size 32 2 v (kept L tip d k).length (cellsOf (kept L tip d k)) ∧ Below w.heap.size w wr) (fun _ i _ => n - (intOf i).toNat)
  case atStart => exact ⟨0, Nat.zero_le _, rfl, World.ownsRow_nil _ _ _ _, Below.refl _ _⟩
  case round =>
    obtain ⟨k, hk, rfl, hown, hb⟩ := hrel
    by_cases hlt : k < n
    · have c1 := (hb.cell (p := ⟨b, off + k * 2, none⟩) (by exact hb0)).trans (hc k hlt).1
      have c2 := (hb.cell (p := ⟨b, off + k * 2 + 1, none⟩) (by exact hb0)).trans (hc k hlt).2
      have h0 := hok k hlt
      have hkl := kept_le L tip d k
      by_cases hd : (nth L k).h ≤ tip - d
      · have hD : Hid (deep (nth L k).h tip d = true) := by show _ = _; simp [deep]; omega
        go_wp2_with (first | (at_builtin; refine wpList_append_own _ rfl _ _ 28 rfl w.heap.size 32 i0 _ 2 32 Try.underlying28 hi hz0 hz1 hz2 rfl (by decide) _ _ _ rfl ((hown.alloc _).alloc _) ⟨wr.heap.size + 1, 0, none⟩ 1 1 [.int .u64 (nth L k).h, .slice (nth L k).a (nth L k).l (nth L k).c] rfl rfl ?c1 ?c2 ?c3 ?c4 ?c5 ?_))
        case c1 =>
          intro j u hj
          match j, hj with
          | 0, hj => simp at hj; subst hj; simp [Addr.add]
          | 1, hj => simp at hj; subst hj; simp [Addr.add]
        case c2 =>
          intro u hu
          simp at hu
          rcases hu with rfl | rfl <;> rfl
        case c3 => unfold maxLen; omega
        case c4 => omega
        case c5 => have := hb.size; simp; omega
        · intro v' w1 hown' hgrow _
          have hb1 : Below w.heap.size w w1 := ((hb.alloc hb.size _).alloc (by have := hb.size; simp; omega) _).grown hgrow (by have := hb.size; simp; omega) (own_ge hown)
          have R : w1.ownsRow w.heap.size 32 2 v' (kept L tip d (k + 1)).length (cellsOf (kept L tip d (k + 1))) := by
            rw [kept_yes L tip d k (by rw [← HN.out]; exact hlt) hD.out, cellsOf_append, List.length_append]
            exact hown'
          clear hown' hgrow hown c1 c2 hc
          go_wp2
          go_roundw
          case rel => exact ⟨k + 1, by omega, by go_num, R, hb1⟩
          case measure => simp [intOf]; omega
      · have hD : Hid (deep (nth L k).h tip d = false) := by show _ = _; simp [deep]; omega
        go_wp2
        go_roundw
        case rel => exact ⟨k + 1, by omega, by go_num, by rw [kept_no L tip d k (by rw [← HN.out]; exact hlt) hD.out]; exact hown.alloc _, hb.alloc hb.size _⟩
        case measure => simp [intOf]; omega
    · go_wp2
      go_ret
      obtain rfl : k = n := by omega
      exact ⟨_, rfl, hown, hb⟩

set_option maxHeartbeats 400000 in
theorem counted_low (v : Value) (tip d : Int) (w : World) (dt : tip < d) :
    Calls Try.prog 7 #[v, .int .u64 tip, .int .u64 d] w fun e w' => e = .returned (.slice none 0 0) ∧ w' = w := by
  go_enter Try.func7, Try.ntmps7
  go_wp2
  go_ret
  exact ⟨rfl, rfl⟩

set_option maxHeartbeats 400000 in
theorem counted_empty (a : Option Addr) (c : Nat) (tip d : Int) (w : World) (dt : ¬ tip < d) :
    Calls Try.prog 7 #[.slice a 0 c, .int .u64 tip, .int .u64 d] w fun e w' => e = .returned (.slice none 0 0) ∧ w' = w := by
  go_enter Try.func7, Try.ntmps7
  go_wp2
  refine wp_loop_rounds 1 ?_
  rw [rounds_succ]
  go_wp2
  go_ret
  exact ⟨rfl, rfl⟩

theorem nth_mem (L : List Ot) (i : Nat) (h : i < L.length) : nth L i ∈ L := by
  simp [nth, List.getD, h]

theorem nth_of_mem {L : List Ot} {o : Ot} (h : o ∈ L) : ∃ i, i < L.length ∧ nth L i = o := by
  obtain ⟨i, hi, rfl⟩ := List.getElem_of_mem h
  exact ⟨i, hi, by simp [nth, List.getD, hi]⟩

theorem Row.mem {M : Nat} {w : World} {a : Option Addr} {L : List Ot} (h : Row M w a L) {o : Ot} (ho : o ∈ L) : o.ok M w := by
  obtain ⟨i, hi, rfl⟩ := nth_of_mem ho
  exact h.ok i hi

/-- A row that is owned. -/
theorem row_of_owns {M base : Nat} {w : World} {v : Value} {L : List Ot} (hok : ∀ o ∈ L, o.ok M w) (h : w.ownsRow base 32 2 v L.length (cellsOf L)) : ∃ a c, v = .slice a L.length c ∧ L.length ≤ c ∧ Row M w a L := by
  rcases h.2 with ⟨rfl, h0⟩ | ⟨g, cap, cur, rfl, hg, hh, hcap, _⟩
  · exact ⟨none, 0, by rw [h0], by omega, fun i hi => by omega, Or.inl h0⟩
  · refine ⟨_, cap, rfl, hcap, fun i hi => hok _ (nth_mem L i hi), ?_⟩
    by_cases h0 : L.length = 0
    · exact Or.inl h0
    · have hc : ∀ i, i < L.length → w.cell? ⟨g, 0 + i * 2, none⟩ = some (.int .u64 (nth L i).h) ∧ w.cell? ⟨g, 0 + i * 2 + 1, none⟩ = some (.slice (nth L i).a (nth L i).l (nth L i).c) := by
        intro i hi
        simp only [Nat.zero_add]
        rw [h.cellAt (i * 2) (by omega), h.cellAt (i * 2 + 1) (by omega)]
        exact cellsOf_at L i hi
      exact Or.inr ⟨g, 0, rfl, World.block_lt_of_cell? _ _ (hc 0 (by omega)).1, hc⟩

/-- The outputs that lie deep enough. -/
def fil (L : List Ot) (tip d : Int) : List Ot := L.filter fun o => deep o.h tip d

theorem fil_le (L : List Ot) (tip d : Int) : (fil L tip d).length ≤ L.length := List.length_filter_le _ _

theorem counted_any (M c : Nat) (a : Option Addr) (L : List Ot) (tip d : Int) (w : World) (h : Row M w a L) (hn : L.length ≤ 65536) (d0 : 0 ≤ d) (t1 : tip ≤ 18446744073709551615) :
    Calls Try.prog 7 #[.slice a L.length c, .int .u64 tip, .int .u64 d] w fun e w' => ∃ a' c', e = .returned (.slice a' (fil L tip d).length c') ∧ Row M w' a' (fil L tip d) ∧ Below w.heap.size w w' := by
  have hok : ∀ o ∈ fil L tip d, o.ok M w := fun o ho => h.mem (List.mem_filter.1 ho).1
  have hnil : ∀ {w' : World}, (fil L tip d) = [] → Row M w' none (fil L tip d) := fun e => by rw [e]; exact ⟨fun i hi => absurd hi (Nat.not_lt_zero _), Or.inl rfl⟩
  by_cases dt : tip < d
  · have e : (fil L tip d) = [] := by
      unfold fil; rw [List.filter_eq_nil_iff]
      intro o ho
      have := (h.mem ho).lo
      simp [deep]
      omega
    refine (counted_low _ tip d w dt).mono fun e' w' ⟨he, hw⟩ => ⟨none, 0, by rw [he, e]; rfl, hnil e, hw ▸ Below.refl _ _⟩
  · rcases h.at_ with h0 | ⟨b, off, rfl, hb, hcell⟩
    · obtain rfl : L = [] := List.length_eq_zero_iff.1 h0
      refine (counted_empty a c tip d w dt).mono fun e' w' ⟨he, hw⟩ => ⟨none, 0, he, hnil rfl, hw ▸ Below.refl _ _⟩
    · refine (counted_loop b off L.length c L tip d w rfl hn hb d0 (by omega) t1 (fun i hi => (h.ok i hi).lo) hcell).mono fun e' w' ⟨v, he, hown, hB⟩ => ?_
      have e : kept L tip d L.length = fil L tip d := by unfold kept fil; rw [List.take_length]
      rw [e] at hown
      obtain ⟨a', c', rfl, _, hrow⟩ := row_of_owns (fun o ho => (hok o ho).below hB) hown
      exact ⟨a', c', he, hrow, hB⟩

end Go.Proofs.Qxb6634862a
