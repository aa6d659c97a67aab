/- A slice of strings that came in, opened for the walks; two closed facts of the program. -/
import Derived.Test.Qxb6634852aReads
import Derived.ProofKit
import Derived.ChangeOld
import Derived.SliceStrings
namespace Go.Proofs.Qxb6634852a
open Go.ChangeShapes Go.WideShapes Go.ChangeAt Go.RowKit

theorem own : ownKnob Try.prog.godebug = none := by kernel_rfl
theorem laidOut : laidOutB Try.prog = true := by kernel_rfl

/-- A slice of strings that can be read as data is what the walks are told. -/
theorem strs_of_trod {H : Type} {enc : TypeId × Value → H} {W : World} {ao : Option Addr} {len cap : Nat} {d : DataW H} {p : List MemPlace}
    (h : DataW.Trod enc Try.prog W 0 (fun _ => true) true 22 (.slice ao len cap) d p) : ∃ f, Strs W ao len cap f := by
  obtain ⟨fuel, hf⟩ := h
  rcases open_strings Try.underlying22 Try.underlying9 (by kernel_rfl) hf with ⟨hcs, _⟩ | ⟨x, l, c, ss, hcs, _, hl, hm, hz, _, hcell, hws⟩
  · simp [Value.cells] at hcs
    obtain ⟨rfl, rfl, rfl⟩ := hcs
    exact ⟨fun _ => ByteArray.empty, Nat.le_refl _, by unfold maxLen; omega, fun _ => by simp, fun _ => ⟨rfl, rfl⟩, fun h => by omega⟩
  · simp [Value.cells] at hcs
    obtain ⟨rfl, rfl, rfl⟩ := hcs
    simp only [if_true] at hz
    refine ⟨fun i => ss.getD i ByteArray.empty, hl, hm, fun i => ?_, fun e => (by cases e), fun h0 => ?_⟩
    · show (ss.getD i ByteArray.empty).size ≤ maxLen
      by_cases hi : i < ss.length
      · rw [List.getD_eq_getElem?_getD, List.getElem?_eq_getElem hi]
        exact hws _ (List.getElem_mem hi)
      · rw [List.getD_eq_getElem?_getD, List.getElem?_eq_none (by omega)]
        simp
    · obtain ⟨b, off, spot⟩ := x
      have hspot : spot = none := by simpa [Addr.add] using World.cell?_spot (hcell 0 (by omega))
      subst hspot
      have hlt : b < W.heap.size := by simpa [Addr.add_lit] using World.block_lt_of_cell? _ _ (hcell 0 (by omega))
      exact ⟨b, off, rfl, hlt, fun i hi => by rw [← add_plain]; exact hcell i (by omega)⟩
end Go.Proofs.Qxb6634852a
