/- A slice of bytes that came in, opened for the walks; two closed facts of the program. -/
import Derived.Test.Qxb6627995aWalks
import Derived.ProofKit
import Derived.ChangeOld
namespace Go.Proofs.Qxb6627995a
open Go.ChangeShapes Go.WideShapes Go.ChangeAt Go.RowKit

theorem own : ownKnob Try.prog.godebug = none := by kernel_rfl
theorem laidOut : laidOutB Try.prog = true := by kernel_rfl

theorem u8_bounds {n : Int} (h : (Lit.int .u8 n).wf = true) : 0 ≤ n ∧ n ≤ 255 := by
  simp [Lit.wf, IntKind.min, IntKind.max, IntKind.signed, IntKind.bits] at h
  omega

theorem bys_of_trod {H : Type} {enc : TypeId × Value → H} {W : World} {ao : Option Addr} {len cap : Nat} {d : DataW H} {p : List MemPlace}
    (h : DataW.Trod enc Try.prog W 0 (fun _ => true) true 22 (.slice ao len cap) d p) : ∃ L, L.length = len ∧ Bys W ao cap L := by
  obtain ⟨fuel, hf⟩ := h
  rcases open_ints Try.underlying22 Try.underlying5 (by kernel_rfl) hf with ⟨hcs, _⟩ | ⟨x, l, c, zs, hcs, _, hl, hm, hz, _, hcell, hwz⟩
  · simp [Value.cells] at hcs
    obtain ⟨rfl, rfl, rfl⟩ := hcs
    exact ⟨[], rfl, Nat.le_refl _, by unfold maxLen; omega, fun i => by simp, fun _ => ⟨rfl, rfl⟩, fun h => by simp at h⟩
  · simp [Value.cells] at hcs
    obtain ⟨rfl, rfl, rfl⟩ := hcs
    simp only [if_true] at hz
    have hlen : (zs.take len).length = len := by rw [List.length_take]; omega
    have hget : ∀ i, i < len → (zs.take len).getD i 0 = zs.getD i 0 := fun i hi => by simp [List.getD, hi]
    refine ⟨zs.take len, hlen, by omega, hm, fun i => ?_, fun e => (by cases e), fun h0 => ?_⟩
    · by_cases hi : i < len
      · rw [hget i hi, List.getD_eq_getElem?_getD, List.getElem?_eq_getElem (by omega)]
        exact u8_bounds (hwz _ (List.getElem_mem (by omega)))
      · rw [List.getD_eq_getElem?_getD, List.getElem?_eq_none (by omega)]
        simp
    · rw [hlen] at h0
      obtain ⟨b, off, spot⟩ := x
      have hspot : spot = none := by simpa [Addr.add] using World.cell?_spot (hcell 0 (by omega))
      subst hspot
      have hlt : b < W.heap.size := by simpa [Addr.add_lit] using World.block_lt_of_cell? _ _ (hcell 0 (by omega))
      exact ⟨b, off, rfl, hlt, fun i hi => by rw [hlen] at hi; rw [← add_plain, hget i hi]; exact hcell i (by omega)⟩
end Go.Proofs.Qxb6627995a
