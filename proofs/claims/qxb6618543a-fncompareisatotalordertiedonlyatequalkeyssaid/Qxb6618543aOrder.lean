/- The walk of FnCompareIsATotalOrderTiedOnlyAtEqualKeys at every lead. -/
import Derived.Test.Qxb6618543aCtx
import Derived.Test.Qxb6618543aOrder0
import Derived.Test.Qxb6618543aOrder1
import Derived.WalkKit
import Derived.WalkSpells
import Derived.WalkLawsBesides
set_option linter.unusedSimpArgs false
set_option linter.unusedVariables false
namespace Go.Proofs.Qxb6618543a
open Go.RowKit

set_option maxHeartbeats 2000000 in
theorem law3_other (l : Int) (h0 : (l != 0) = true) (h1 : (l != 1) = true) (a b c : Cd) (fa : Fits a) (fb : Fits b) (fc : Fits c) (w : World) :
    Calls Try.prog 3 #[.int .i64 l, .agg #[.string a.ns, .string a.nm, .string a.ud, .int .i32 a.pr, .int .i64 a.us, .bool a.rep, .int .i64 a.rq, .bool a.rqd], .agg #[.string b.ns, .string b.nm, .string b.ud, .int .i32 b.pr, .int .i64 b.us, .bool b.rep, .int .i64 b.rq, .bool b.rqd], .agg #[.string c.ns, .string c.nm, .string c.ud, .int .i32 c.pr, .int .i64 c.us, .bool c.rep, .int .i64 c.rq, .bool c.rqd]] w fun e w' => e = .returned (.bool true) ∧ Below w.heap.size w w' := by
  go_enter Try.func3, Try.ntmps3
  go_wp2_with fail
  refine (bytes5 l a b c _ fa.ns fa.nm fa.ud fb.ns fb.nm fb.ud fc.ns fc.nm fc.ud).mono ?_
  rintro e W1 ⟨⟨o, rfl⟩, hb⟩
  have iA : At W1 w.heap.size a := At.step ⟨by simp; omega, by go_simp, by go_simp, by go_simp, by go_simp, by go_simp, by go_simp, by go_simp, by go_simp⟩ hb
  have iB : At W1 (w.heap.size + 1) b := At.step ⟨by simp, by go_simp, by go_simp, by go_simp, by go_simp, by go_simp, by go_simp, by go_simp, by go_simp⟩ hb
  have iC : At W1 (w.heap.size + 1 + 1) c := At.step ⟨by simp, by go_simp, by go_simp, by go_simp, by go_simp, by go_simp, by go_simp, by go_simp, by go_simp⟩ hb
  have bel : Below w.heap.size w W1 := ((((Below.refl _ _).alloc (Nat.le_refl _) _).alloc (by simp) _).alloc (by simp; omega) _).trans (hb.mono (by simp; omega))
  clear hb
  cases o
  · go_wp2
    go_ret
    exact ⟨rfl, bel⟩
  obtain ⟨na, a0, a1, a2, a3, a4, a5, a6, a7⟩ := id iA
  go_wp2_with fail
  refine (big6 a _ fa.ns fa.nm fa.ud).mono ?_
  rintro e W2 ⟨⟨o, rfl⟩, hb⟩
  clear na a0 a1 a2 a3 a4 a5 a6 a7
  replace iA := iA.step hb
  replace iB := iB.step hb
  replace iC := iC.step hb
  replace bel := bel.trans (hb.mono bel.size)
  clear hb
  cases o
  case true =>
    go_wp2
    go_ret
    exact ⟨rfl, bel⟩
  obtain ⟨nb, b0, b1, b2, b3, b4, b5, b6, b7⟩ := id iB
  go_wp2_with fail
  refine (big6 b _ fb.ns fb.nm fb.ud).mono ?_
  rintro e W3 ⟨⟨o, rfl⟩, hb⟩
  clear nb b0 b1 b2 b3 b4 b5 b6 b7
  replace iA := iA.step hb
  replace iB := iB.step hb
  replace iC := iC.step hb
  replace bel := bel.trans (hb.mono bel.size)
  clear hb
  cases o
  case true =>
    go_wp2
    go_ret
    exact ⟨rfl, bel⟩
  obtain ⟨nc, c0, c1, c2, c3, c4, c5, c6, c7⟩ := id iC
  go_wp2_with fail
  refine (big6 c _ fc.ns fc.nm fc.ud).mono ?_
  rintro e W4 ⟨⟨o, rfl⟩, hb⟩
  clear nc c0 c1 c2 c3 c4 c5 c6 c7
  replace iA := iA.step hb
  replace iB := iB.step hb
  replace iC := iC.step hb
  replace bel := bel.trans (hb.mono bel.size)
  clear hb
  cases o
  case true =>
    go_wp2
    go_ret
    exact ⟨rfl, bel⟩
  go_wp2
  go_ret
  exact ⟨rfl, bel⟩

theorem law3 (l : Int) (a b c : Cd) (fa : Fits a) (fb : Fits b) (fc : Fits c) (w : World) :
    Calls Try.prog 3 #[.int .i64 l, .agg #[.string a.ns, .string a.nm, .string a.ud, .int .i32 a.pr, .int .i64 a.us, .bool a.rep, .int .i64 a.rq, .bool a.rqd], .agg #[.string b.ns, .string b.nm, .string b.ud, .int .i32 b.pr, .int .i64 b.us, .bool b.rep, .int .i64 b.rq, .bool b.rqd], .agg #[.string c.ns, .string c.nm, .string c.ud, .int .i32 c.pr, .int .i64 c.us, .bool c.rep, .int .i64 c.rq, .bool c.rqd]] w fun e w' => e = .returned (.bool true) ∧ Below w.heap.size w w' := by
  by_cases h0 : l = 0
  · subst h0; exact law3_0 a b c fa fb fc w
  by_cases h1 : l = 1
  · subst h1; exact law3_1 a b c fa fb fc w
  exact law3_other l (by simpa using h0) (by simpa using h1) a b c fa fb fc w

end Go.Proofs.Qxb6618543a
