/-
  A slice of strings among the arguments, as the walks are told of it.
-/
import Derived.Test.Qxb6616934aBase
import Derived.ProofKit
import Derived.OpenShut
import Derived.ShutString
import Derived.ChangeOld
import Derived.Below
import Derived.SliceStrings
namespace Go.Proofs.Qxb6616934a.Bs
open Go.ChangeShapes Go.WideShapes Go.ChangeAt Go.RowKit

theorem own : ownKnob Try.prog.godebug = none := by kernel_rfl
theorem laidOut : laidOutB Try.prog = true := by kernel_rfl
theorem cells9 : Try.prog.cellsOf 9 = 1 := by kernel_rfl

theorem open_strs22 {H : Type} {enc : TypeId × Value → H} {W : World} {a : Option Addr} {len cap : Nat} {d : DataW H} {ps : List MemPlace}
    (h : DataW.Trod enc Try.prog W 0 (fun _ => true) true 22 (.slice a len cap) d ps) : ∃ ss : List ByteArray, ss.length = len ∧ len ≤ maxLen ∧ IsStrs W.heap.size W a ss := by
  obtain ⟨fuel, hf⟩ := h
  rcases open_strings Try.underlying22 Try.underlying9 cells9 hf with ⟨hcs, _⟩ | ⟨x, l, c, ss, hcs, _, hl, hm, hz, _, hcell, hsz⟩
  · simp [Value.cells] at hcs
    obtain ⟨rfl, rfl, rfl⟩ := hcs
    exact ⟨[], rfl, Nat.zero_le _, by simp, fun j hj => by simp at hj⟩
  · simp [Value.cells] at hcs
    obtain ⟨rfl, rfl, rfl⟩ := hcs
    simp only [if_true] at hz
    refine ⟨ss.take len, by rw [List.length_take]; omega, by omega, fun s hs => hsz s (List.mem_of_mem_take hs), fun j hj => ?_⟩
    have hj' : j < ss.length := by rw [List.length_take] at hj; omega
    have hc := hcell j hj'
    obtain ⟨b, off, spot⟩ := x
    have hspot : spot = none := by simpa [Addr.add] using World.cell?_spot (hcell 0 (by omega))
    subst hspot
    have hc0 : W.cell? ⟨b, off + j, none⟩ = some (.string (ss.getD j ByteArray.empty)) := by
      have ea : (⟨b, off, none⟩ : Addr).add j = ⟨b, off + j, none⟩ := by simp [Addr.add]
      rw [← ea]; exact hc
    refine ⟨b, off, rfl, ?_, ?_⟩
    · by_cases c : b < W.heap.size
      · exact c
      · unfold World.cell? at hc0
        rw [Array.getElem?_eq_none (by simpa using c)] at hc0
        cases hc0
    · rw [hc0, List.getElem_take]
      simp [List.getD, List.getElem?_eq_getElem hj']

end Go.Proofs.Qxb6616934a.Bs
