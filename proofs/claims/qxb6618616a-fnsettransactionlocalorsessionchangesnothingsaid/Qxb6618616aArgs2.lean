/- Slices of bools, strings and ints that came in, opened: what the walk asks of them. -/
import Derived.Test.Qxb6618616aTwo
import Derived.WalkKit
import Derived.ProofKit
import Derived.OpenShut
import Derived.ShutString
import Derived.Deep.Slices
set_option linter.unusedSimpArgs false
set_option linter.unusedVariables false
namespace Go.Proofs.Qxb6618616a
open Go.ChangeShapes Go.WideShapes Go.ChangeAt Go.RowKit Go.Deep

theorem open_cells {H : Type} {enc : TypeId × Value → H} {w : World} {held : Bool} {t e : TypeId} {a0 : Option Addr} {len cap : Nat} {d : DataW H} {p : List MemPlace} (ht : Try.prog.underlying t = some (.slice e)) (hc : Try.prog.cellsOf e = 1)
    (h : DataW.Trod enc Try.prog w 0 (fun _ => true) held t (.slice a0 len cap) d p) :
    len ≤ 9223372036854775807 ∧ ∃ V : Nat → Value, ∀ i, i < len → (∃ b off, a0 = some ⟨b, off, none⟩ ∧ w.cell? ⟨b, off + i, none⟩ = some (V i)) ∧ ∃ n y, DataW.trod enc Try.prog w 0 (fun _ => true) held n e [V i] = some y := by
  obtain ⟨fuel, hf⟩ := h
  rcases open_slice1 ht hc hf with ⟨hcs, _⟩ | ⟨a, l, c, m, n, V, D, Pl, hcs, _, hl, hm, hmm, _, hcell⟩
  · simp [Value.cells] at hcs
    obtain ⟨rfl, rfl, rfl⟩ := hcs
    exact ⟨by omega, fun _ => .bool false, fun i hi => absurd hi (by omega)⟩
  · simp [Value.cells] at hcs
    obtain ⟨rfl, rfl, rfl⟩ := hcs
    have hmm' : m = cap := by simpa using hmm
    have hm' := hm
    unfold maxLen at hm'
    refine ⟨by omega, V, fun i hi => ?_⟩
    obtain ⟨b, off, spot⟩ := a
    have hspot : spot = none := by simpa [Addr.add] using World.cell?_spot (hcell 0 (by omega)).1
    subst hspot
    have h := hcell i (by omega)
    rw [Go.WideShapes.add_plain] at h
    exact ⟨⟨b, off, rfl, h.1⟩, n, _, h.2⟩

theorem open_bools24 {H : Type} {enc : TypeId × Value → H} {w : World} {held : Bool} {a0 : Option Addr} {len cap : Nat} {d : DataW H} {p : List MemPlace}
    (h : DataW.Trod enc Try.prog w 0 (fun _ => true) held 24 (.slice a0 len cap) d p) : len ≤ 9223372036854775807 ∧ ∃ B, BoolsF w a0 len B := by
  obtain ⟨hl, V, hV⟩ := open_cells Try.underlying24 (by kernel_rfl) h
  refine ⟨hl, fun i => (match V i with | .bool b => b | _ => false), fun i hi => ?_⟩
  obtain ⟨⟨b, off, e, hc⟩, n, y, hy⟩ := hV i hi
  obtain ⟨x, hx, _⟩ := DataW.trod_bool Try.underlying4 hy
  simp at hx
  exact ⟨b, off, e, by simp only [hc, hx]⟩

theorem open_ints26 {H : Type} {enc : TypeId × Value → H} {w : World} {held : Bool} {a0 : Option Addr} {len cap : Nat} {d : DataW H} {p : List MemPlace}
    (h : DataW.Trod enc Try.prog w 0 (fun _ => true) held 26 (.slice a0 len cap) d p) : len ≤ 9223372036854775807 ∧ ∃ X, IntsF w a0 len X := by
  obtain ⟨hl, V, hV⟩ := open_cells Try.underlying26 (by kernel_rfl) h
  refine ⟨hl, fun i => (match V i with | .int _ x => x | _ => 0), fun i hi => ?_⟩
  obtain ⟨⟨b, off, e, hc⟩, n, y, hy⟩ := hV i hi
  obtain ⟨x, hx, _⟩ := DataW.trod_int Try.underlying3 hy
  simp at hx
  exact ⟨b, off, e, by simp only [hc, hx]⟩

theorem open_strsF25 {H : Type} {enc : TypeId × Value → H} {w : World} {held : Bool} {a0 : Option Addr} {len cap : Nat} {d : DataW H} {p : List MemPlace}
    (h : DataW.Trod enc Try.prog w 0 (fun _ => true) held 25 (.slice a0 len cap) d p) : len ≤ 9223372036854775807 ∧ Strs w a0 len ∧ ∃ S, StrsF w a0 len S := by
  obtain ⟨hl, V, hV⟩ := open_cells Try.underlying25 (by kernel_rfl) h
  refine ⟨hl, fun i hi => ?_, fun i => (match V i with | .string s => s | _ => ByteArray.empty), fun i hi => ?_⟩
  · obtain ⟨⟨b, off, e, hc⟩, n, y, hy⟩ := hV i hi
    obtain ⟨x, hx, _, hsz⟩ := DataW.trod_string Try.underlying9 hy
    simp at hx
    exact ⟨b, off, x, e, by rw [hc, hx], hsz⟩
  · obtain ⟨⟨b, off, e, hc⟩, n, y, hy⟩ := hV i hi
    obtain ⟨x, hx, _⟩ := DataW.trod_string Try.underlying9 hy
    simp at hx
    exact ⟨b, off, e, by simp only [hc, hx]⟩

end Go.Proofs.Qxb6618616a
