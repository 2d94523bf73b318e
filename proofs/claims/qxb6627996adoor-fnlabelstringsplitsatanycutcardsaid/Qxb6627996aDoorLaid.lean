/-
  What the listed variables give the walks, and the witness that they can be so.
-/
import Derived.Test.Qxb6627996aDoorStr
import Derived.ProofKit
import Derived.LaidMore
import Derived.OpenShut
import Derived.ShutString
import Derived.ChangeOld
import Derived.Stop.Joined
import Derived.Stop.LaidErr
import Derived.MakeChecks
import Derived.Lib.LaidTab
namespace Go.Proofs.Qxb6627996aDoor
open Go.ChangeShapes Go.WideShapes Go.ChangeAt Go.RowKit

theorem own : ownKnob Tryd.prog.godebug = none := by kernel_rfl
theorem laidOut : laidOutB Tryd.prog = true := by kernel_rfl

theorem same_laid : Rows.fnLabelStringSplitsAtAnyCutRow.laid = Rows.fnLabelStringDecodesToPartsRow.laid := rfl

theorem gTab : Tryd.prog.globalNamed tabName = some 0 := by kernel_rfl
theorem tTab : (Tryd.prog.globals[0]?).map (·.type) = some 51 := by kernel_rfl

theorem door_met (os : Os) (args : Array Value) : laidMetH Tryd.prog Rows.fnLabelStringDecodesToPartsRow.laid ((World.doorLaid Tryd.prog 24 os).forCall (fun _ _ => 0) ⟨#[], args, []⟩).memory :=
  laidMetH_of_parts3 (fuel := 8) (laidMet_of_run' 8 (by kernel_rfl) (by kernel_rfl)) (by kernel_rfl) (by kernel_rfl)

theorem last_laid : Rows.fnLabelStringDecodesToPartsRow.laid.drop 2 = [(tabName, Lib.tabData .u64 Lib.pow10Tab)] := by kernel_rfl

theorem tab_of_laid {W : World} (h : laidMetH Tryd.prog Rows.fnLabelStringDecodesToPartsRow.laid W) : Tab W.heap.size W := by
  rw [MakeChecks.laidMetH_plain _ _ _ (by kernel_rfl)] at h
  have h2 : laidMet Tryd.prog (Rows.fnLabelStringDecodesToPartsRow.laid.drop 2) W := h.tail.tail
  rw [last_laid] at h2
  exact Lib.tabBelow_of_tabIs (Lib.tabIs_of_head gTab tTab Tryd.underlying51 Tryd.underlying25 (by kernel_rfl) (by kernel_rfl) h2)

/-- A slice of numbers that came in, opened. -/
theorem open_nums {H : Type} {enc : TypeId × Value → H} {W : World} {t e : TypeId} {k : IntKind} {a : Option Addr} {len cap : Nat} {d : DataW H} {p : List MemPlace}
    (ht : Tryd.prog.underlying t = some (.slice e)) (he : Tryd.prog.underlying e = some (.int k)) (hc : Tryd.prog.cellsOf e = 1)
    (h : DataW.Trod enc Tryd.prog W 0 (fun _ => true) true t (.slice a len cap) d p) :
    ∃ Z : Nat → Int, NR k W a len Z ∧ len ≤ 9223372036854775807 ∧ (a = none → len = 0 ∧ cap = 0) ∧ ∀ i, i < len → (Lit.int k (Z i)).wf = true := by
  obtain ⟨fuel, hf⟩ := h
  rcases open_ints ht he hc hf with ⟨hcs, _⟩ | ⟨x, l, c, zs, hcs, _, hl, hm, hz, _, hcell, hwz⟩
  · simp [Value.cells] at hcs
    obtain ⟨rfl, rfl, rfl⟩ := hcs
    exact ⟨fun _ => 0, Or.inl rfl, by omega, fun _ => ⟨rfl, rfl⟩, fun i hi => absurd hi (Nat.not_lt_zero _)⟩
  · simp [Value.cells] at hcs
    obtain ⟨rfl, rfl, rfl⟩ := hcs
    simp only [if_true] at hz
    unfold maxLen at hm
    refine ⟨fun i => zs.getD i 0, ?_, by omega, fun e => by simp at e, fun i hi => hwz _ ?_⟩
    · by_cases h0 : len = 0
      · exact Or.inl h0
      · obtain ⟨b, off, rfl, hcc⟩ := ints_at hcell (by omega)
        exact Or.inr ⟨b, off, rfl, World.block_lt_of_cell? _ _ (hcc 0 (by omega)), fun j hj => hcc j (by omega)⟩
    · have hi' : i < zs.length := by omega
      simp [List.getD, hi']

end Go.Proofs.Qxb6627996aDoor
