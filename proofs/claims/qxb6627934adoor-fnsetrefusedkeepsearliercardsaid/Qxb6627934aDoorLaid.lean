/-
  What the listed variables give the walks, and the witness that they can be so.
-/
import Derived.Test.Qxb6627934aDoorSet
import Derived.ProofKit
import Derived.LaidMore
import Derived.OpenShut
import Derived.ShutString
import Derived.Stop.Joined
import Derived.Stop.LaidErr
import Derived.MakeChecks
namespace Go.Proofs.Qxb6627934aDoor
open Go.ChangeShapes Go.WideShapes Go.ChangeAt Go.RowKit

theorem own : ownKnob Tryd.prog.godebug = none := by kernel_rfl
theorem tSyn : (Tryd.prog.globals[0]?).map (·.type) = some 25 := by kernel_rfl
theorem tRng : (Tryd.prog.globals[1]?).map (·.type) = some 25 := by kernel_rfl

theorem err_of_laid {n nm : String} {d : DataW Unit} {r : List (String × DataW Unit)} {W : World} {g : Nat} (h : laidMet Tryd.prog ((n, .iface nm d) :: r) W)
    (hg : Tryd.prog.globalNamed n = some g) (ht : (Tryd.prog.globals[g]?).map (·.type) = some 25) : ∃ t p, W.var? Tryd.prog n = some #[.iface t p] := by
  obtain ⟨ps, ⟨g0, t0, cs0, f0, p0, q0, hg0, ht0, hv0, hd0, _, e0⟩, _, _⟩ := h
  obtain rfl := Option.some.inj (hg.symm.trans hg0)
  obtain rfl := Option.some.inj (ht.symm.trans ht0)
  obtain ⟨_, u, v, e, _, _⟩ := iface_of_trod Tryd.underlying25 hd0
  obtain ⟨l0⟩ := cs0
  simp only at e
  subst e
  exact ⟨u, v, hv0⟩

/-- The list that both rows bear. -/
theorem same_laid : Rows.fnSetRefusedKeepsEarlierRow.laid = Rows.fnSetSignPrefixesRow.laid := rfl

theorem errs_of_laid {W : World} (h : laidMetH Tryd.prog Rows.fnSetSignPrefixesRow.laid W) : Errs W := by
  rw [MakeChecks.laidMetH_plain _ _ _ (by kernel_rfl)] at h
  have h3 := h.tail.tail.tail
  exact ⟨err_of_laid h3.tail gSyn tSyn, err_of_laid h3 gRng tRng⟩

theorem errs_size {W : World} (h : Errs W) : 1 < W.heap.size := by
  obtain ⟨_, t, p, h1⟩ := h
  exact World.block_lt_of_cell? _ ⟨1, 0, none⟩ (u := .iface t p) (by simpa using World.var?_cell gRng h1 0)

theorem door_met (os : Os) (args : Array Value) : laidMetH Tryd.prog Rows.fnSetSignPrefixesRow.laid ((World.doorLaid Tryd.prog 62 os).forCall (fun _ _ => 0) ⟨#[], args, []⟩).memory :=
  laidMetH_of_parts3 (fuel := 8) (laidMet_of_run' 8 (by kernel_rfl) (by kernel_rfl)) (by kernel_rfl) (by kernel_rfl)

end Go.Proofs.Qxb6627934aDoor
