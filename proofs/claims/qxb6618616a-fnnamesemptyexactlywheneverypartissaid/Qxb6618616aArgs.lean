/- A []string argument opened: what the laws' walks ask of it. -/
import Derived.Test.Qxb6618616aSizes
import Derived.WalkKit
import Derived.ProofKit
import Derived.OpenShut
import Derived.ShutString
import Derived.SliceStrings
set_option linter.unusedSimpArgs false
set_option linter.unusedVariables false
namespace Go.Proofs.Qxb6618616a
open Go.ChangeShapes Go.WideShapes Go.ChangeAt Go.RowKit

theorem open_strs25 {H : Type} {enc : TypeId × Value → H} {w : World} {held : Bool} {a0 : Option Addr} {len cap : Nat} {d : DataW H} {p : List MemPlace}
    (h : DataW.Trod enc Try.prog w 0 (fun _ => true) held 25 (.slice a0 len cap) d p) :
    len ≤ 9223372036854775807 ∧ Strs w a0 len ∧ len ≤ cap := by
  obtain ⟨fuel, hf⟩ := h
  rcases Go.ChangeShapes.open_strings Try.underlying25 Try.underlying9 (by kernel_rfl) hf with ⟨hcs, _⟩ | ⟨a, l, c, ss, hcs, _, hl, hm, hz, _, hcell, hsz⟩
  · simp [Value.cells] at hcs
    obtain ⟨rfl, rfl, rfl⟩ := hcs
    exact ⟨by omega, fun i hi => absurd hi (by omega), Nat.le_refl _⟩
  · simp [Value.cells] at hcs
    obtain ⟨rfl, rfl, rfl⟩ := hcs
    have hz' : ss.length = cap := by simpa using hz
    have hm' := hm
    unfold maxLen at hm'
    refine ⟨by omega, fun i hi => ?_, hl⟩
    obtain ⟨b, off, spot⟩ := a
    have hspot : spot = none := by simpa [Addr.add] using World.cell?_spot (hcell 0 (by omega))
    subst hspot
    refine ⟨b, off, ss.getD i ByteArray.empty, rfl, ?_, ?_⟩
    · rw [← Go.WideShapes.add_plain]; exact hcell i (by omega)
    · apply hsz
      rw [List.getD_eq_getElem?_getD, List.getElem?_eq_getElem (by omega : i < ss.length)]
      exact List.getElem_mem _

end Go.Proofs.Qxb6618616a
