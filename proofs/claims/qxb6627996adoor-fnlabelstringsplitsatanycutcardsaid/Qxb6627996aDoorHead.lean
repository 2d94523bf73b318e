/-
  Small facts that both laws' heads want: a copied row; the table; zzBytes.
-/
import Derived.Test.Qxb6627996aDoorStr
import Derived.Laws.CopyOwn
namespace Go.Proofs.Qxb6627996aDoor
open Go.RowKit

theorem Tab.at {w w1 : World} (h : Tab w.heap.size w) (hb : Below w.heap.size w w1) : Tab w1.heap.size w1 :=
  fun w' hw => h w' (hb.step hw)

theorem info3 : (Tryd.prog.info? 3).map (fun i => (i.zero, i.size, i.bytes)) = some (some (.int .i64 0), 1, 8) := by kernel_rfl
theorem info25 : (Tryd.prog.info? 25).map (fun i => (i.zero, i.size, i.bytes)) = some (some (.int .u64 0), 1, 8) := by kernel_rfl

/-- The cells of a row of numbers. -/
def cellsZ (k : IntKind) (n : Nat) (Z : Nat → Int) : List Value := (List.range n).map fun i => Value.int k (Z i)

theorem cellsZ_length (k : IntKind) (n : Nat) (Z : Nat → Int) : (cellsZ k n Z).length = n := by simp [cellsZ]

theorem cellsZ_at {k : IntKind} {n : Nat} {Z : Nat → Int} {j : Nat} {v : Value} (h : (cellsZ k n Z)[j]? = some v) : j < n ∧ v = .int k (Z j) := by
  unfold cellsZ at h
  by_cases hj : j < n
  · simp [hj] at h
    exact ⟨hj, h.symm⟩
  · simp [hj] at h

theorem cellsZ_one (k : IntKind) (n : Nat) (Z : Nat → Int) : ∀ v ∈ cellsZ k n Z, v.oneCell' = true := by
  intro v hv
  obtain ⟨i, _, rfl⟩ := List.mem_map.1 hv
  rfl

/-- A row that is filled from its first place to its last. -/
theorem splice_all {cur : List Value} {k : IntKind} {n : Nat} {Z : Nat → Int} (h : cur.length = n) : splice cur 0 (cellsZ k n Z) = cellsZ k n Z := by
  unfold splice
  simp [cellsZ_length, h]

/-- What a new row of n numbers is good for. -/
theorem nr_of_heap {k : IntKind} {w : World} {g n : Nat} {t : TypeId} {cur : List Value} {Z : Nat → Int} (hl : cur.length = n) (h : w.heap[g]? = some (.cells (splice cur 0 (cellsZ k n Z)).toArray t (0, 0))) : NR k w (some ⟨g, 0, none⟩) n Z := by
  rw [splice_all hl] at h
  refine Or.inr ⟨g, 0, rfl, ?_, fun i hi => ?_⟩
  · rcases Nat.lt_or_ge g w.heap.size with h1 | h1
    · exact h1
    · rw [Array.getElem?_eq_none h1] at h; cases h
  · unfold World.cell?
    simp [h, cellsZ, hi]

/-- The block of a row that 'make' has laid. -/
theorem made_heap {w1 : World} {base n e : Nat} {g : Nat} {xs : List Value} (h : w1.ownsRow base e 1 (.slice (some ⟨g, 0, none⟩) n n) n xs) : ∃ cur : List Value, cur.length = n ∧ w1.heap[g]? = some (.cells cur.toArray e (0, 0)) := by
  rcases h.2 with ⟨h1, _⟩ | ⟨g', cap, cur, h1, _, hh, _, _, hs, _⟩
  · cases h1
  · simp only [Value.slice.injEq, Option.some.injEq, Addr.mk.injEq] at h1
    obtain ⟨⟨rfl, _⟩, _, rfl⟩ := h1
    exact ⟨cur.toList, by simpa using hs, by simpa using hh⟩

/-- Where a copy's source lies. -/
theorem src_of {k : IntKind} {w w' : World} {a : Option Addr} {n : Nat} {Z : Nat → Int} (h : NR k w a n Z) (hb : Below w.heap.size w w') (hp : 0 < (cellsZ k n Z).length) :
    ∃ ad, a = some ad ∧ ∀ j v, (cellsZ k n Z)[j]? = some v → w'.cell? (ad.add j) = some v := by
  rw [cellsZ_length] at hp
  rcases h with h0 | ⟨b, off, rfl, hlt, hZ⟩
  · omega
  · refine ⟨_, rfl, fun j v hj => ?_⟩
    obtain ⟨hj', rfl⟩ := cellsZ_at hj
    rw [Go.WideShapes.add_plain, hb.cell (by exact hlt)]
    exact hZ j hj'

set_option maxHeartbeats 400000 in
theorem zzBytes5_yes (a a' : Option Addr) (n c n' c' : Nat) (w : World) (h : n + n' ≤ 1048576) : Calls Tryd.prog 5 #[.slice a n c, .slice a' n' c'] w fun e w' => e = .returned (.bool true) ∧ w = w' := by
  go_enter Tryd.func5, Tryd.ntmps5
  go_wp2
  go_ret
  exact ⟨rfl, rfl⟩

set_option maxHeartbeats 400000 in
theorem zzBytes5_no (a a' : Option Addr) (n c n' c' : Nat) (w : World) (h : 1048576 < n + n') (hm : n ≤ 9223372036854775807) (hm' : n' ≤ 9223372036854775807) : Calls Tryd.prog 5 #[.slice a n c, .slice a' n' c'] w fun e w' => e = .returned (.bool false) ∧ w = w' := by
  by_cases h1 : 1048576 < n
  · go_enter Tryd.func5, Tryd.ntmps5
    go_wp2
    go_ret
    exact ⟨rfl, rfl⟩
  · by_cases h2 : 1048576 < n'
    · go_enter Tryd.func5, Tryd.ntmps5
      go_wp2
      go_ret
      exact ⟨rfl, rfl⟩
    · go_enter Tryd.func5, Tryd.ntmps5
      go_wp2
      go_ret
      exact ⟨rfl, rfl⟩

end Go.Proofs.Qxb6627996aDoor
