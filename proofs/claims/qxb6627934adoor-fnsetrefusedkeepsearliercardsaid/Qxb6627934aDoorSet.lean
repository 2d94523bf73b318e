/-
  (*Int).Set: what it does to the world.
-/
import Derived.Test.Qxb6627934aDoorMag
import Derived.Test.Qxb6627934aDoorShelf
import Derived.Lib.AtoiErrMem
namespace Go.Proofs.Qxb6627934aDoor
open Go.RowKit

theorem gSyn : Tryd.prog.globalNamed "strconv.ErrSyntax" = some 0 := by kernel_rfl
theorem gRng : Tryd.prog.globalNamed "strconv.ErrRange" = some 1 := by kernel_rfl

/-- The variables strconv.ErrSyntax and strconv.ErrRange hold each a value of an interface's type. -/
def Errs (w : World) : Prop := (∃ t p, w.var? Tryd.prog "strconv.ErrSyntax" = some #[.iface t p]) ∧ ∃ t p, w.var? Tryd.prog "strconv.ErrRange" = some #[.iface t p]

theorem Errs.below {B : Nat} {w w' : World} (h : Errs w) (hB : 1 < B) (hb : Below B w w') : Errs w' := by
  obtain ⟨⟨t, p, h0⟩, t', p', h1⟩ := h
  refine ⟨⟨t, p, ?_⟩, t', p', ?_⟩
  · rw [← h0]
    unfold World.var?
    rw [gSyn]
    simp only [Option.bind_some, hb.block 0 (by omega)]
  · rw [← h1]
    unfold World.var?
    rw [gRng]
    simp only [Option.bind_some, hb.block 1 hB]

/-- strconv.Atoi at a text that zzModel takes. -/
theorem atoi_ok (s : ByteArray) (v : Int) (w : World) (hs : s.size ≤ 1048577) (h : model s.data.toList = some v) :
    Calls Tryd.prog 10 #[.string s] w fun e w' => e = .returned (.tuple #[.int .i64 v, .nilIface]) ∧ Below w.heap.size w w' := by
  have hv : Lib.atoiAll s.data.toList = .ok v := by
    rw [model_atoi] at h
    split at h
    · rename_i u hu; injection h with h; rw [hu, h]
    · cases h
  refine (Any.strconv_Atoi_ok Tryd.laysC172 s (by omega) v hv w).mono fun e w' ⟨he, hw⟩ => ⟨he, ?_⟩
  rcases hw with rfl | ⟨t, rfl⟩
  · exact Below.refl _ _
  · exact Lib.bytesWorld_below _ _ _

/-- .. and at one that it refuses. -/
theorem atoi_no (s : ByteArray) (w : World) (hs : s.size ≤ 1048577) (h : model s.data.toList = none) (hE : Errs w) :
    Calls Tryd.prog 10 #[.string s] w fun e w' => ∃ v N, e = .returned (.tuple #[.int .i64 v, .iface 44 (.pointer (some ⟨N, 0, none⟩))]) ∧ Below w.heap.size w w' := by
  obtain ⟨⟨t, p, h0⟩, t', p', h1⟩ := hE
  rw [model_atoi] at h
  cases hv : Lib.atoiAll s.data.toList
  · rw [hv] at h; cases h
  · exact (Any.strconv_Atoi_syntax_var Tryd.laysC172 s (by omega) hv t p w h0).mono fun e w' ⟨N, he, _, _, hb⟩ => ⟨_, N, he, hb⟩
  · exact (Any.strconv_Atoi_range_var Tryd.laysC172 s (by omega) hv t' p' w h1).mono fun e w' ⟨N, he, _, _, hb⟩ => ⟨_, N, he, hb⟩

/-- Block b holds the number v; of what else was there nothing has turned. -/
structure SetTo (b : Nat) (v : Int) (w w' : World) : Prop where
  cell : w'.cell? ⟨b, 0, none⟩ = some (.int .i64 v)
  free : w'.frozen? ⟨b, 0, none⟩ = false
  os : w'.os = w.os
  tape : w'.tape = w.tape
  output : w'.output = w.output
  size : w.heap.size ≤ w'.heap.size
  block : ∀ k, k < w.heap.size → k ≠ b → w'.heap[k]? = w.heap[k]?

theorem SetTo.below {b : Nat} {v : Int} {w w' : World} (h : SetTo b v w w') {B : Nat} (hb : B ≤ b) (hs : B ≤ w.heap.size) : Below B w w' :=
  ⟨h.os, h.tape, h.output, h.size, fun k hk => h.block k (by omega) (by omega)⟩

theorem SetTo.other {b : Nat} {v : Int} {w w' : World} (h : SetTo b v w w') {k : Nat} {u : Value} (hk : k ≠ b) (hc : w.cell? ⟨k, 0, none⟩ = some u) : w'.cell? ⟨k, 0, none⟩ = some u :=
  (World.cell?_of_block (w := w) (h.block k (World.block_lt_of_cell? _ _ hc) hk)).trans hc

theorem SetTo.ofBelow {b : Nat} {x : Int} {w w' : World} (hB : Below w.heap.size w w') (hc : w.cell? ⟨b, 0, none⟩ = some (.int .i64 x)) (hf : w.frozen? ⟨b, 0, none⟩ = false) : SetTo b x w w' :=
  have hb : b < w.heap.size := World.block_lt_of_cell? _ _ hc
  ⟨(hB.cell (p := ⟨b, 0, none⟩) hb).trans hc, (hB.frozen (p := ⟨b, 0, none⟩) hb).trans hf, hB.os, hB.tape, hB.output, hB.size, fun k hk _ => hB.block k hk⟩

set_option maxHeartbeats 400000 in
theorem set_ok (b : Nat) (s : ByteArray) (x v : Int) (w : World) (hs : s.size ≤ 1048577) (h : model s.data.toList = some v) (hc : w.cell? ⟨b, 0, none⟩ = some (.int .i64 x)) (hf : w.frozen? ⟨b, 0, none⟩ = false) :
    Calls Tryd.prog 6 #[.pointer (some ⟨b, 0, none⟩), .string s] w fun e w' => e = .returned .nilIface ∧ SetTo b v w w' := by
  have hb : b < w.heap.size := World.block_lt_of_cell? _ _ hc
  have HC : Hid (w.cell? ⟨b, 0, none⟩ = some (.int .i64 x) ∧ w.frozen? ⟨b, 0, none⟩ = false) := ⟨hc, hf⟩
  clear hc hf
  go_enter Tryd.func6, Tryd.ntmps6
  go_wp2_with fail
  refine (atoi_ok s v _ hs h).mono ?_
  rintro e w1 ⟨rfl, hB⟩
  have c1 : w1.cell? ⟨b, 0, none⟩ = some (.int .i64 x) := (hB.cell (p := ⟨b, 0, none⟩) hb).trans HC.out.1
  have f1 : w1.frozen? ⟨b, 0, none⟩ = false := (hB.frozen (p := ⟨b, 0, none⟩) hb).trans HC.out.2
  go_wp2
  go_ret
  refine ⟨rfl, World.cell?_setCell_same _ _ _ c1, ?_, hB.os, hB.tape, hB.output, ?_, fun k hk hne => ?_⟩
  · rw [World.frozen?_setCell]; exact f1
  · simpa [World.setCell] using hB.size
  · rw [Below.heap_setCell _ _ _ _ hne]; exact hB.block k hk

set_option maxHeartbeats 400000 in
theorem set_no (b : Nat) (s : ByteArray) (x : Int) (w : World) (hs : s.size ≤ 1048577) (h : model s.data.toList = none) (hE : Errs w) (hc : w.cell? ⟨b, 0, none⟩ = some (.int .i64 x)) (hf : w.frozen? ⟨b, 0, none⟩ = false) :
    Calls Tryd.prog 6 #[.pointer (some ⟨b, 0, none⟩), .string s] w fun e w' => ∃ N, e = .returned (.iface 37 (.pointer (some ⟨N, 0, none⟩))) ∧ SetTo b x w w' := by
  have HC : Hid (w.cell? ⟨b, 0, none⟩ = some (.int .i64 x) ∧ w.frozen? ⟨b, 0, none⟩ = false) := ⟨hc, hf⟩
  clear hc hf
  go_enter Tryd.func6, Tryd.ntmps6
  go_wp2_with fail
  refine (atoi_no s _ hs h hE).mono ?_
  rintro e w1 ⟨v, N, rfl, hB⟩
  go_wp2
  go_ret
  exact ⟨w1.heap.size, rfl, SetTo.ofBelow (hB.alloc hB.size _) HC.out.1 HC.out.2⟩

set_option maxHeartbeats 400000 in
theorem zzBytes5_no (x : Value) (s : ByteArray) (w : World) (h : 1048576 < s.size) :
    Calls Tryd.prog 5 #[x, .string s] w fun e w' => e = .returned (.bool false) ∧ w = w' := by
  go_enter Tryd.func5, Tryd.ntmps5
  go_wp2
  go_ret
  exact ⟨rfl, rfl⟩

set_option maxHeartbeats 400000 in
theorem zzBytes5_yes (x : Value) (s : ByteArray) (w : World) (h : s.size ≤ 1048576) :
    Calls Tryd.prog 5 #[x, .string s] w fun e w' => e = .returned (.bool true) ∧ w = w' := by
  go_enter Tryd.func5, Tryd.ntmps5
  go_wp2
  go_ret
  exact ⟨rfl, rfl⟩

end Go.Proofs.Qxb6627934aDoor
