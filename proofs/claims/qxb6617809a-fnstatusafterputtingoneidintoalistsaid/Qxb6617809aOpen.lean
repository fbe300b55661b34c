import Derived.Test.Qxb6617809aRows
import Derived.Test.Qxb6617809aKit
import Derived.ProofKit
import Derived.OpenShut
import Derived.ShutString
import Derived.ChangeOld
import Derived.Below
import Derived.SliceStrings
namespace Go.Proofs.Qxb6617809a
open Go.ChangeShapes Go.WideShapes Go.ChangeAt Go.RowKit
open Go.ChangeMaps (open_string shut_string)

theorem Try.own : ownKnob Try.prog.godebug = none := by kernel_rfl
theorem Try.laidOut : laidOutB Try.prog = true := by kernel_rfl
theorem Try.cells9 : Try.prog.cellsOf 9 = 1 := by kernel_rfl

theorem lt_of_cell {w : World} {a : Addr} {v : Value} (h : w.cell? a = some v) : a.block < w.heap.size := by
  unfold World.cell? at h
  split at h
  · exact lt_of_block (by assumption)
  · simp at h

/-- A slice of strings that came in: what the walks ask of it. -/
theorem open_strs {H : Type} {enc : TypeId × Value → H} {W : World} {a : Option Addr} {len cap fuel : Nat} {x : DataW H × List MemPlace}
    (h : DataW.trod enc Try.prog W 0 (fun _ => true) true fuel 22 (Value.cells (.slice a len cap)).toList = some x) :
    ∃ b off S, len ≤ cap ∧ cap ≤ maxLen ∧ (a = none → cap = 0) ∧ Strs W a b off len S := by
  rcases open_strings Try.underlying22 Try.underlying9 Try.cells9 h with ⟨hcs, _⟩ | ⟨y, l, c, ss, hcs, _, hl, hm, hz, _, hcell, hws⟩
  · simp [Value.cells] at hcs
    obtain ⟨rfl, rfl, rfl⟩ := hcs
    exact ⟨0, 0, fun _ => ByteArray.empty, Nat.le_refl _, Nat.zero_le _, fun _ => rfl, ⟨fun h => absurd h (by omega), fun j h => absurd h (by omega), fun j h => absurd h (by omega), fun h => absurd h (by omega)⟩⟩
  · simp [Value.cells] at hcs
    obtain ⟨rfl, rfl, rfl⟩ := hcs
    have hz' : ss.length = cap := by simpa using hz
    obtain ⟨b, off, spot⟩ := y
    refine ⟨b, off, fun j => ss.getD j ByteArray.empty, hl, hm, (fun e => by cases e), ⟨fun h0 => ?_, fun j hj => ?_, fun j hj => ?_, fun h0 => lt_of_cell (hcell 0 (by omega))⟩⟩
    · have hspot : spot = none := by simpa [Addr.add] using World.cell?_spot (hcell 0 (by omega))
      rw [hspot]
    · have hspot : spot = none := by simpa [Addr.add] using World.cell?_spot (hcell 0 (by omega))
      subst hspot
      rw [← Go.WideShapes.add_plain]
      exact hcell j (by omega)
    · rw [List.getD, List.getElem?_eq_getElem (by omega)]
      exact hws _ (List.getElem_mem _)
end Go.Proofs.Qxb6617809a
