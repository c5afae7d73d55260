/- A Cand argument opened: whatever reads as one is eight plain fields, within their kinds' bounds. -/
import Derived.Test.Qxb6618543aProg
import Derived.Test.Qxb6618543aPlain
import Derived.WalkKit
import Derived.ProofKit
import Derived.OpenShut
import Derived.ShutString
import Derived.Deep.Fields
set_option linter.unusedSimpArgs false
set_option linter.unusedVariables false
namespace Go.Proofs.Qxb6618543a
open Go.ChangeShapes Go.WideShapes Go.ChangeAt Go.RowKit Go.Deep

theorem cells23 : Try.prog.cellsOf 23 = 8 := by kernel_rfl
theorem array8 {α : Type} {cs : Array α} (h : cs.size = 8) : ∃ c0 c1 c2 c3 c4 c5 c6 c7, cs = #[c0, c1, c2, c3, c4, c5, c6, c7] := by
  obtain ⟨l⟩ := cs
  match l, h with
  | [c0, c1, c2, c3, c4, c5, c6, c7], _ => exact ⟨c0, c1, c2, c3, c4, c5, c6, c7, rfl⟩

theorem list8 {α : Type} {cs : List α} (h : cs.length = 8) : ∃ c0 c1 c2 c3 c4 c5 c6 c7, cs = [c0, c1, c2, c3, c4, c5, c6, c7] := by
  match cs, h with
  | [c0, c1, c2, c3, c4, c5, c6, c7], _ => exact ⟨c0, c1, c2, c3, c4, c5, c6, c7, rfl⟩

/-- What is asked of a candidate's fields by their types. -/
structure Fits (c : Cd) : Prop where
  ns : c.ns.size ≤ maxLen
  nm : c.nm.size ≤ maxLen
  ud : c.ud.size ≤ maxLen
  us : c.us ≤ 9223372036854775807
  rq : c.rq ≤ 9223372036854775807

set_option maxRecDepth 100000 in
theorem open_cand {H : Type} {enc : TypeId × Value → H} {w : World} {base : Nat} {spare : Nat → Bool} {held : Bool} {r : Reach} {b0 : Nat} {v : Value} {d : DataW H} {p : List MemPlace}
    (hv : Value.okWide Try.prog w r b0 23 v) (h : DataW.Trod enc Try.prog w base spare held 23 v d p) :
    ∃ c : Cd, v = .agg #[.string c.ns, .string c.nm, .string c.ud, .int .i32 c.pr, .int .i64 c.us, .bool c.rep, .int .i64 c.rq, .bool c.rqd] ∧ Fits c := by
  obtain ⟨cs, rfl, hsz⟩ := okWide_struct Try.underlying23 hv
  obtain ⟨c0, c1, c2, c3, c4, c5, c6, c7, rfl⟩ := array8 (hsz.trans cells23)
  obtain ⟨fuel, hf⟩ := h
  obtain ⟨xs, n, _, _, hl, hlen, hf⟩ := DataW.trod_struct Try.underlying23 hf
  have g0 := hf 0 _ rfl
  have g1 := hf 1 _ rfl
  have g2 := hf 2 _ rfl
  have g3 := hf 3 _ rfl
  have g4 := hf 4 _ rfl
  have g5 := hf 5 _ rfl
  have g6 := hf 6 _ rfl
  have g7 := hf 7 _ rfl
  have k9 : Try.prog.cellsOf 9 = 1 := by kernel_rfl
  have k21 : Try.prog.cellsOf 21 = 1 := by kernel_rfl
  have k2 : Try.prog.cellsOf 2 = 1 := by kernel_rfl
  have k4 : Try.prog.cellsOf 4 = 1 := by kernel_rfl
  obtain ⟨y0, y1, y2, y3, y4, y5, y6, y7, rfl⟩ := list8 (hlen.trans rfl)
  simp [Value.cells, k9, k21, k2, k4] at g0 g1 g2 g3 g4 g5 g6 g7
  obtain ⟨s0, e0, _, m0⟩ := DataW.trod_string Try.underlying9 g0
  obtain ⟨s1, e1, _, m1⟩ := DataW.trod_string Try.underlying9 g1
  obtain ⟨s2, e2, _, m2⟩ := DataW.trod_string Try.underlying9 g2
  obtain ⟨s3, e3, _, m3⟩ := DataW.trod_int Try.underlying21 g3
  obtain ⟨s4, e4, _, m4⟩ := DataW.trod_int Try.underlying2 g4
  obtain ⟨s5, e5, _⟩ := DataW.trod_bool Try.underlying4 g5
  obtain ⟨s6, e6, _, m6⟩ := DataW.trod_int Try.underlying2 g6
  obtain ⟨s7, e7, _⟩ := DataW.trod_bool Try.underlying4 g7
  simp at e0 e1 e2 e3 e4 e5 e6 e7
  subst e0 e1 e2 e3 e4 e5 e6 e7
  refine ⟨⟨s0, s1, s2, s3, s4, s5, s6, s7⟩, rfl, m0, m1, m2, ?_, ?_⟩
  · simp [Lit.wf, IntKind.min, IntKind.max, IntKind.signed, IntKind.bits] at m4; exact m4.2
  · simp [Lit.wf, IntKind.min, IntKind.max, IntKind.signed, IntKind.bits] at m6; exact m6.2

end Go.Proofs.Qxb6618543a
