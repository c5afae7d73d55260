/- The walk of FnCompareIsATotalOrderTiedOnlyAtEqualKeys at lead 1. -/
import Derived.Test.Qxb6618543aCtx
import Derived.Test.Qxb6618543aTied
import Derived.WalkKit
import Derived.WalkSpells
import Derived.WalkLawsBesides
set_option linter.unusedSimpArgs false
set_option linter.unusedVariables false
namespace Go.Proofs.Qxb6618543a
open Go.RowKit

set_option maxHeartbeats 4000000 in
theorem law3_1 (a b c : Cd) (fa : Fits a) (fb : Fits b) (fc : Fits c) (w : World) :
    Calls Try.prog 3 #[.int .i64 1, .agg #[.string a.ns, .string a.nm, .string a.ud, .int .i32 a.pr, .int .i64 a.us, .bool a.rep, .int .i64 a.rq, .bool a.rqd], .agg #[.string b.ns, .string b.nm, .string b.ud, .int .i32 b.pr, .int .i64 b.us, .bool b.rep, .int .i64 b.rq, .bool b.rqd], .agg #[.string c.ns, .string c.nm, .string c.ud, .int .i32 c.pr, .int .i64 c.us, .bool c.rep, .int .i64 c.rq, .bool c.rqd]] w fun e w' => e = .returned (.bool true) ∧ Below w.heap.size w w' := by
  go_enter Try.func3, Try.ntmps3
  go_wp2_with fail
  refine (bytes5 1 a b c _ fa.ns fa.nm fa.ud fb.ns fb.nm fb.ud fc.ns fc.nm fc.ud).mono ?_
  rintro e W1 ⟨⟨o, rfl⟩, hb⟩
  have iA : At W1 w.heap.size a := At.step ⟨by simp; omega, by go_simp, by go_simp, by go_simp, by go_simp, by go_simp, by go_simp, by go_simp, by go_simp⟩ hb
  have iB : At W1 (w.heap.size + 1) b := At.step ⟨by simp, by go_simp, by go_simp, by go_simp, by go_simp, by go_simp, by go_simp, by go_simp, by go_simp⟩ hb
  have iC : At W1 (w.heap.size + 1 + 1) c := At.step ⟨by simp, by go_simp, by go_simp, by go_simp, by go_simp, by go_simp, by go_simp, by go_simp, by go_simp⟩ hb
  have bel : Below w.heap.size w W1 := ((((Below.refl _ _).alloc (Nat.le_refl _) _).alloc (by simp) _).alloc (by simp; omega) _).trans (hb.mono (by simp; omega))
  clear hb
  cases o
  · go_wp2
    go_ret
    exact ⟨rfl, bel⟩
  obtain ⟨na, a0, a1, a2, a3, a4, a5, a6, a7⟩ := id iA
  go_wp2_with fail
  refine (big6 a _ fa.ns fa.nm fa.ud).mono ?_
  rintro e W2 ⟨⟨o, rfl⟩, hb⟩
  clear na a0 a1 a2 a3 a4 a5 a6 a7
  replace iA := iA.step hb
  replace iB := iB.step hb
  replace iC := iC.step hb
  replace bel := bel.trans (hb.mono bel.size)
  clear hb
  cases o
  case true =>
    go_wp2
    go_ret
    exact ⟨rfl, bel⟩
  obtain ⟨nb, b0, b1, b2, b3, b4, b5, b6, b7⟩ := id iB
  go_wp2_with fail
  refine (big6 b _ fb.ns fb.nm fb.ud).mono ?_
  rintro e W3 ⟨⟨o, rfl⟩, hb⟩
  clear nb b0 b1 b2 b3 b4 b5 b6 b7
  replace iA := iA.step hb
  replace iB := iB.step hb
  replace iC := iC.step hb
  replace bel := bel.trans (hb.mono bel.size)
  clear hb
  cases o
  case true =>
    go_wp2
    go_ret
    exact ⟨rfl, bel⟩
  obtain ⟨nc, c0, c1, c2, c3, c4, c5, c6, c7⟩ := id iC
  go_wp2_with fail
  refine (big6 c _ fc.ns fc.nm fc.ud).mono ?_
  rintro e W4 ⟨⟨o, rfl⟩, hb⟩
  clear nc c0 c1 c2 c3 c4 c5 c6 c7
  replace iA := iA.step hb
  replace iB := iB.step hb
  replace iC := iC.step hb
  replace bel := bel.trans (hb.mono bel.size)
  clear hb
  cases o
  case true =>
    go_wp2
    go_ret
    exact ⟨rfl, bel⟩
  obtain ⟨na, a0, a1, a2, a3, a4, a5, a6, a7⟩ := id iA
  go_wp2_with fail
  refine (out7 a _).mono ?_
  rintro e W5 ⟨⟨o, rfl, ho⟩, hb⟩
  clear na a0 a1 a2 a3 a4 a5 a6 a7
  replace iA := iA.step hb
  replace iB := iB.step hb
  replace iC := iC.step hb
  replace bel := bel.trans (hb.mono bel.size)
  clear hb
  cases o
  case true =>
    clear ho
    go_wp2
    go_ret
    exact ⟨rfl, bel⟩
  obtain ⟨ua, qa⟩ := ho rfl
  clear ho
  have ua' := fa.us
  have qa' := fa.rq
  obtain ⟨nb, b0, b1, b2, b3, b4, b5, b6, b7⟩ := id iB
  go_wp2_with fail
  refine (out7 b _).mono ?_
  rintro e W6 ⟨⟨o, rfl, ho⟩, hb⟩
  clear nb b0 b1 b2 b3 b4 b5 b6 b7
  replace iA := iA.step hb
  replace iB := iB.step hb
  replace iC := iC.step hb
  replace bel := bel.trans (hb.mono bel.size)
  clear hb
  cases o
  case true =>
    clear ho
    go_wp2
    go_ret
    exact ⟨rfl, bel⟩
  obtain ⟨ub, qb⟩ := ho rfl
  clear ho
  have ub' := fb.us
  have qb' := fb.rq
  obtain ⟨nc, c0, c1, c2, c3, c4, c5, c6, c7⟩ := id iC
  go_wp2_with fail
  refine (out7 c _).mono ?_
  rintro e W7 ⟨⟨o, rfl, ho⟩, hb⟩
  clear nc c0 c1 c2 c3 c4 c5 c6 c7
  replace iA := iA.step hb
  replace iB := iB.step hb
  replace iC := iC.step hb
  replace bel := bel.trans (hb.mono bel.size)
  clear hb
  cases o
  case true =>
    clear ho
    go_wp2
    go_ret
    exact ⟨rfl, bel⟩
  obtain ⟨uc, qc⟩ := ho rfl
  clear ho
  have uc' := fc.us
  have qc' := fc.rq
  obtain ⟨na, a0, a1, a2, a3, a4, a5, a6, a7⟩ := id iA
  go_wp2_with fail
  refine (make8 a _).mono ?_
  rintro e W8 ⟨pa, rfl, hp, x0, x1, x2, x3, hb⟩
  clear na a0 a1 a2 a3 a4 a5 a6 a7
  replace iA := iA.step hb
  replace iB := iB.step hb
  replace iC := iC.step hb
  replace bel := bel.trans (hb.mono bel.size)
  clear hb
  have pA : Pod W8 pa a := ⟨hp, x0, x1, x2, x3⟩
  clear hp x0 x1 x2 x3
  have y0 := fun o : Obj => (iB.step (Joins1 W8 o)).2.1
  have y1 := fun o : Obj => (iB.step (Joins1 W8 o)).2.2.1
  have y2 := fun o : Obj => (iB.step (Joins1 W8 o)).2.2.2.1
  have y3 := fun o : Obj => (iB.step (Joins1 W8 o)).2.2.2.2.1
  have y4 := fun o : Obj => (iB.step (Joins1 W8 o)).2.2.2.2.2.1
  have y5 := fun o : Obj => (iB.step (Joins1 W8 o)).2.2.2.2.2.2.1
  have y6 := fun o : Obj => (iB.step (Joins1 W8 o)).2.2.2.2.2.2.2.1
  have y7 := fun o : Obj => (iB.step (Joins1 W8 o)).2.2.2.2.2.2.2.2
  go_wp2_with fail
  clear y0 y1 y2 y3 y4 y5 y6 y7
  refine (make8 b _).mono ?_
  rintro e W9 ⟨pb, rfl, hp, x0, x1, x2, x3, hb⟩
  have cA : Cand W9 W8.heap.size pa a := Cand.step ⟨by simp, by go_simp, by go_simp, by go_simp, by go_simp, by go_simp⟩ hb
  replace iA := (iA.step (Joins1 W8 _)).step hb
  replace iB := (iB.step (Joins1 W8 _)).step hb
  replace iC := (iC.step (Joins1 W8 _)).step hb
  replace pA := (pA.step (Joins1 W8 _)).step hb
  replace bel := (bel.trans ((Joins1 W8 _).mono bel.size)).trans (hb.mono (by have := bel.size; simp; omega))
  have pB : Pod W9 pb b := ⟨hp, x0, x1, x2, x3⟩
  clear hp x0 x1 x2 x3 hb
  have y0 := fun o : Obj => (iC.step (Joins1 W9 o)).2.1
  have y1 := fun o : Obj => (iC.step (Joins1 W9 o)).2.2.1
  have y2 := fun o : Obj => (iC.step (Joins1 W9 o)).2.2.2.1
  have y3 := fun o : Obj => (iC.step (Joins1 W9 o)).2.2.2.2.1
  have y4 := fun o : Obj => (iC.step (Joins1 W9 o)).2.2.2.2.2.1
  have y5 := fun o : Obj => (iC.step (Joins1 W9 o)).2.2.2.2.2.2.1
  have y6 := fun o : Obj => (iC.step (Joins1 W9 o)).2.2.2.2.2.2.2.1
  have y7 := fun o : Obj => (iC.step (Joins1 W9 o)).2.2.2.2.2.2.2.2
  go_wp2_with fail
  clear y0 y1 y2 y3 y4 y5 y6 y7
  refine (make8 c _).mono ?_
  rintro e V ⟨pc, rfl, hp, x0, x1, x2, x3, hb⟩
  have cB : Cand V W9.heap.size pb b := Cand.step ⟨by simp, by go_simp, by go_simp, by go_simp, by go_simp, by go_simp⟩ hb
  replace iA := (iA.step (Joins1 W9 _)).step hb
  replace iB := (iB.step (Joins1 W9 _)).step hb
  clear iC
  replace pA := (pA.step (Joins1 W9 _)).step hb
  replace pB := (pB.step (Joins1 W9 _)).step hb
  replace cA := (cA.step (Joins1 W9 _)).step hb
  replace bel := (bel.trans ((Joins1 W9 _).mono bel.size)).trans (hb.mono (by have := bel.size; simp; omega))
  have pC : Pod V pc c := ⟨hp, x0, x1, x2, x3⟩
  clear hp x0 x1 x2 x3 hb
  have y0 := fun o : Obj => (cA.step (Joins1 V o)).2.1
  have y1 := fun o : Obj => (cA.step (Joins1 V o)).2.2.1
  have y2 := fun o : Obj => (cA.step (Joins1 V o)).2.2.2.1
  have y3 := fun o : Obj => (cA.step (Joins1 V o)).2.2.2.2.1
  have y4 := fun o : Obj => (cA.step (Joins1 V o)).2.2.2.2.2
  have z0 := fun o : Obj => (cB.step (Joins1 V o)).2.1
  have z1 := fun o : Obj => (cB.step (Joins1 V o)).2.2.1
  have z2 := fun o : Obj => (cB.step (Joins1 V o)).2.2.2.1
  have z3 := fun o : Obj => (cB.step (Joins1 V o)).2.2.2.2.1
  have z4 := fun o : Obj => (cB.step (Joins1 V o)).2.2.2.2.2
  go_wp2_with fail
  clear y0 y1 y2 y3 y4 z0 z1 z2 z3 z4
  have jA := pA.step (Joins1 V (.cells #[.pointer (some ⟨pc, 0, none⟩), .int .i64 c.us, .bool c.rep, .int .i64 c.rq, .bool c.rqd] 28))
  have jB := pB.step (Joins1 V (.cells #[.pointer (some ⟨pc, 0, none⟩), .int .i64 c.us, .bool c.rep, .int .i64 c.rq, .bool c.rqd] 28))
  refine (zzcompare9 pa pb a b 1 _ jA.2.1 jA.2.2.1 jA.2.2.2.1 jA.2.2.2.2 jA.1 jB.2.1 jB.2.2.1 jB.2.2.2.1 jB.2.2.2.2 jB.1 ua ua' qa qa' ub ub' qb qb').mono ?_
  rintro e X1 ⟨rfl, hb⟩
  clear jA jB
  have cC : Cand X1 V.heap.size pc c := Cand.step ⟨by simp, by go_simp, by go_simp, by go_simp, by go_simp, by go_simp⟩ hb
  replace iA := (iA.step (Joins1 V _)).step hb
  replace iB := (iB.step (Joins1 V _)).step hb
  replace pA := (pA.step (Joins1 V _)).step hb
  replace pB := (pB.step (Joins1 V _)).step hb
  replace pC := (pC.step (Joins1 V _)).step hb
  replace cA := (cA.step (Joins1 V _)).step hb
  replace cB := (cB.step (Joins1 V _)).step hb
  replace bel := (bel.trans ((Joins1 V _).mono bel.size)).trans (hb.mono (by have := bel.size; simp; omega))
  clear hb
  obtain ⟨_, y0, y1, y2, y3, y4⟩ := id cB
  obtain ⟨_, z0, z1, z2, z3, z4⟩ := id cA
  go_wp2_with fail
  refine (zzcompare9 pb pa b a 1 _ pB.2.1 pB.2.2.1 pB.2.2.2.1 pB.2.2.2.2 pB.1 pA.2.1 pA.2.2.1 pA.2.2.2.1 pA.2.2.2.2 pA.1 ub ub' qb qb' ua ua' qa qa').mono ?_
  rintro e X2 ⟨rfl, hb⟩
  clear y0 y1 y2 y3 y4 z0 z1 z2 z3 z4
  replace iA := iA.step hb
  replace iB := iB.step hb
  replace pA := pA.step hb
  replace pB := pB.step hb
  replace pC := pC.step hb
  replace cA := cA.step hb
  replace cB := cB.step hb
  replace cC := cC.step hb
  replace bel := bel.trans (hb.mono bel.size)
  clear hb
  obtain ⟨_, y0, y1, y2, y3, y4⟩ := id cB
  obtain ⟨_, z0, z1, z2, z3, z4⟩ := id cC
  go_wp2_with fail
  refine (zzcompare9 pb pc b c 1 _ pB.2.1 pB.2.2.1 pB.2.2.2.1 pB.2.2.2.2 pB.1 pC.2.1 pC.2.2.1 pC.2.2.2.1 pC.2.2.2.2 pC.1 ub ub' qb qb' uc uc' qc qc').mono ?_
  rintro e X3 ⟨rfl, hb⟩
  clear y0 y1 y2 y3 y4 z0 z1 z2 z3 z4
  replace iA := iA.step hb
  replace iB := iB.step hb
  replace pA := pA.step hb
  replace pB := pB.step hb
  replace pC := pC.step hb
  replace cA := cA.step hb
  replace cB := cB.step hb
  replace cC := cC.step hb
  replace bel := bel.trans (hb.mono bel.size)
  clear hb
  obtain ⟨_, y0, y1, y2, y3, y4⟩ := id cA
  obtain ⟨_, z0, z1, z2, z3, z4⟩ := id cC
  go_wp2_with fail
  refine (zzcompare9 pa pc a c 1 _ pA.2.1 pA.2.2.1 pA.2.2.2.1 pA.2.2.2.2 pA.1 pC.2.1 pC.2.2.1 pC.2.2.2.1 pC.2.2.2.2 pC.1 ua ua' qa qa' uc uc' qc qc').mono ?_
  rintro e X4 ⟨rfl, hb⟩
  clear y0 y1 y2 y3 y4 z0 z1 z2 z3 z4
  replace iA := iA.step hb
  replace iB := iB.step hb
  replace pA := pA.step hb
  replace pB := pB.step hb
  replace pC := pC.step hb
  replace cA := cA.step hb
  replace cB := cB.step hb
  replace cC := cC.step hb
  replace bel := bel.trans (hb.mono bel.size)
  clear hb
  clear pA pB pC cA cB cC
  obtain ⟨na, a0, a1, a2, a3, a4, a5, a6, a7⟩ := id iA
  obtain ⟨nb, b0, b1, b2, b3, b4, b5, b6, b7⟩ := id iB
  have hba := (good_cmp 1).anti a b
  have tr := (good_cmp 1).trans a b c
  have ti := cmp_tied 1 a b
  have rbc := (good_cmp 1).range b c
  have rac := (good_cmp 1).range a c
  rcases (good_cmp 1).range a b with hab | hab | hab
  · rw [hab] at hba tr ti
    have ht : tied false a b = false := ti.symm
    have hba' : cmpF 1 b a = 1 := hba
    clear ti hba
    rcases rbc with hbc | hbc | hbc
    · rw [hbc] at tr
      have hac : cmpF 1 a c = -1 := by
        have t := tr (by omega) (by omega)
        omega
      clear tr rac
      go_wp2_with fail
      refine (tied10 false a b _ ua ua' qa qa' ub ub' qb qb').mono ?_
      rintro e W ⟨rfl, hb⟩
      replace bel := bel.trans (hb.mono bel.size)
      clear hb
      go_wp2
      go_ret
      exact ⟨rfl, bel⟩
    · rw [hbc] at tr
      have hac : cmpF 1 a c = -1 := by
        have t := tr (by omega) (by omega)
        omega
      clear tr rac
      go_wp2_with fail
      refine (tied10 false a b _ ua ua' qa qa' ub ub' qb qb').mono ?_
      rintro e W ⟨rfl, hb⟩
      replace bel := bel.trans (hb.mono bel.size)
      clear hb
      go_wp2
      go_ret
      exact ⟨rfl, bel⟩
    · clear tr rac
      go_wp2_with fail
      refine (tied10 false a b _ ua ua' qa qa' ub ub' qb qb').mono ?_
      rintro e W ⟨rfl, hb⟩
      replace bel := bel.trans (hb.mono bel.size)
      clear hb
      go_wp2
      go_ret
      exact ⟨rfl, bel⟩
  · rw [hab] at hba tr ti
    have ht : tied false a b = true := ti.symm
    have hba' : cmpF 1 b a = 0 := hba
    clear ti hba
    rcases rbc with hbc | hbc | hbc
    · rw [hbc] at tr
      have hac : cmpF 1 a c = -1 := by
        have t := tr (by omega) (by omega)
        omega
      clear tr rac
      go_wp2_with fail
      refine (tied10 false a b _ ua ua' qa qa' ub ub' qb qb').mono ?_
      rintro e W ⟨rfl, hb⟩
      replace bel := bel.trans (hb.mono bel.size)
      clear hb
      go_wp2
      go_ret
      exact ⟨rfl, bel⟩
    · rw [hbc] at tr
      have hac : cmpF 1 a c = 0 := by
        have t := tr (by omega) (by omega)
        omega
      clear tr rac
      go_wp2_with fail
      refine (tied10 false a b _ ua ua' qa qa' ub ub' qb qb').mono ?_
      rintro e W ⟨rfl, hb⟩
      replace bel := bel.trans (hb.mono bel.size)
      clear hb
      go_wp2
      go_ret
      exact ⟨rfl, bel⟩
    · clear tr rac
      go_wp2_with fail
      refine (tied10 false a b _ ua ua' qa qa' ub ub' qb qb').mono ?_
      rintro e W ⟨rfl, hb⟩
      replace bel := bel.trans (hb.mono bel.size)
      clear hb
      go_wp2
      go_ret
      exact ⟨rfl, bel⟩
  · rw [hab] at hba tr ti
    have ht : tied false a b = false := ti.symm
    have hba' : cmpF 1 b a = -1 := hba
    clear ti hba
    rcases rbc with hbc | hbc | hbc
    · clear tr rac
      go_wp2_with fail
      refine (tied10 false a b _ ua ua' qa qa' ub ub' qb qb').mono ?_
      rintro e W ⟨rfl, hb⟩
      replace bel := bel.trans (hb.mono bel.size)
      clear hb
      go_wp2
      go_ret
      exact ⟨rfl, bel⟩
    · clear tr rac
      go_wp2_with fail
      refine (tied10 false a b _ ua ua' qa qa' ub ub' qb qb').mono ?_
      rintro e W ⟨rfl, hb⟩
      replace bel := bel.trans (hb.mono bel.size)
      clear hb
      go_wp2
      go_ret
      exact ⟨rfl, bel⟩
    · clear tr rac
      go_wp2_with fail
      refine (tied10 false a b _ ua ua' qa qa' ub ub' qb qb').mono ?_
      rintro e W ⟨rfl, hb⟩
      replace bel := bel.trans (hb.mono bel.size)
      clear hb
      go_wp2
      go_ret
      exact ⟨rfl, bel⟩

end Go.Proofs.Qxb6618543a
