/- The walk of FnCompareLeadOrdersFirstThenAgrees, and the plain facts that decide its tests. -/
import Derived.Test.Qxb6618543aCtx
import Derived.WalkKit
import Derived.WalkSpells
import Derived.WalkLawsBesides
set_option linter.unusedSimpArgs false
set_option linter.unusedVariables false
namespace Go.Proofs.Qxb6618543a
open Go.RowKit

theorem r_rep {a b : Cd} (h : (a.rep == b.rep) = false) : cmpF 0 a b = if a.rep then 1 else -1 := by
  rw [cmpF_eq]
  cases ha : a.rep <;> cases hb : b.rep <;> simp [ha, hb] at h <;> simp [reqF, orL, cb, ha, hb, or2]
theorem r_exc {a b : Cd} (h : a.rep = b.rep) (k : (exc a == exc b) = false) : cmpF 0 a b = if exc a then -1 else 1 := by
  rw [cmpF_eq]
  cases ha : exc a <;> cases hb : exc b <;> simp [ha, hb] at k <;> simp [reqF, orL, cb, ha, hb, or2, h]
theorem r_q {a b : Cd} (h : a.rep = b.rep) (k : exc a = exc b) : cmpF 0 a b = cmpF 1 a b := by
  rw [cmpF_eq, cmpF_eq]
  simp [reqF, orL, cb, h, k, or2]
theorem q_lt {a b : Cd} (h : a.pr < b.pr) : cmpF 1 a b = -1 := by
  rw [cmpF_eq]
  simp [reqF, or2, ci, h]
theorem q_gt {a b : Cd} (h : b.pr < a.pr) : cmpF 1 a b = 1 := by
  rw [cmpF_eq]
  have : ¬ a.pr < b.pr := by omega
  simp [reqF, or2, ci, h, this]
theorem q_rep {a b : Cd} (h : a.pr = b.pr) (k : (a.rep == b.rep) = false) : cmpF 1 a b = if a.rep then 1 else -1 := by
  rw [cmpF_eq]
  cases ha : a.rep <;> cases hb : b.rep <;> simp [ha, hb] at k <;> simp [reqF, repBey, cb, ha, hb, or2, h, ci]

set_option maxHeartbeats 2000000 in
theorem law4 (a b : Cd) (fa : Fits a) (fb : Fits b) (w : World) :
    Calls Try.prog 4 #[.agg #[.string a.ns, .string a.nm, .string a.ud, .int .i32 a.pr, .int .i64 a.us, .bool a.rep, .int .i64 a.rq, .bool a.rqd], .agg #[.string b.ns, .string b.nm, .string b.ud, .int .i32 b.pr, .int .i64 b.us, .bool b.rep, .int .i64 b.rq, .bool b.rqd]] w fun e w' => e = .returned (.bool true) ∧ Below w.heap.size w w' := by
  go_enter Try.func4, Try.ntmps4
  go_wp2_with fail
  refine (bytes11 a b _ fa.ns fa.nm fa.ud fb.ns fb.nm fb.ud).mono ?_
  rintro e W1 ⟨⟨o, rfl⟩, hb⟩
  have iA : At W1 w.heap.size a := At.step ⟨by simp; omega, by go_simp, by go_simp, by go_simp, by go_simp, by go_simp, by go_simp, by go_simp, by go_simp⟩ hb
  have iB : At W1 (w.heap.size + 1) b := At.step ⟨by simp, by go_simp, by go_simp, by go_simp, by go_simp, by go_simp, by go_simp, by go_simp, by go_simp⟩ hb
  have bel : Below w.heap.size w W1 := (((Below.refl _ _).alloc (Nat.le_refl _) _).alloc (by simp) _).trans (hb.mono (by simp; omega))
  clear hb
  cases o
  · go_wp2
    go_ret
    exact ⟨rfl, bel⟩
  obtain ⟨na, a0, a1, a2, a3, a4, a5, a6, a7⟩ := id iA
  obtain ⟨nb, b0, b1, b2, b3, b4, b5, b6, b7⟩ := id iB
  go_wp2_with fail
  refine (big6 a _ fa.ns fa.nm fa.ud).mono ?_
  rintro e W2 ⟨⟨o, rfl⟩, hb⟩
  clear na a0 a1 a2 a3 a4 a5 a6 a7 nb b0 b1 b2 b3 b4 b5 b6 b7
  replace iA := iA.step hb
  replace iB := iB.step hb
  replace bel := bel.trans (hb.mono bel.size)
  clear hb
  obtain ⟨na, a0, a1, a2, a3, a4, a5, a6, a7⟩ := id iA
  obtain ⟨nb, b0, b1, b2, b3, b4, b5, b6, b7⟩ := id iB
  cases o
  case true =>
    go_wp2
    go_ret
    exact ⟨rfl, bel⟩
  go_wp2_with fail
  refine (big6 b _ fb.ns fb.nm fb.ud).mono ?_
  rintro e W3 ⟨⟨o, rfl⟩, hb⟩
  clear na a0 a1 a2 a3 a4 a5 a6 a7 nb b0 b1 b2 b3 b4 b5 b6 b7
  replace iA := iA.step hb
  replace iB := iB.step hb
  replace bel := bel.trans (hb.mono bel.size)
  clear hb
  obtain ⟨na, a0, a1, a2, a3, a4, a5, a6, a7⟩ := id iA
  obtain ⟨nb, b0, b1, b2, b3, b4, b5, b6, b7⟩ := id iB
  cases o
  case true =>
    go_wp2
    go_ret
    exact ⟨rfl, bel⟩
  go_wp2_with fail
  refine (out7 a _).mono ?_
  rintro e W4 ⟨⟨o, rfl, ho⟩, hb⟩
  clear na a0 a1 a2 a3 a4 a5 a6 a7 nb b0 b1 b2 b3 b4 b5 b6 b7
  replace iA := iA.step hb
  replace iB := iB.step hb
  replace bel := bel.trans (hb.mono bel.size)
  clear hb
  obtain ⟨na, a0, a1, a2, a3, a4, a5, a6, a7⟩ := id iA
  obtain ⟨nb, b0, b1, b2, b3, b4, b5, b6, b7⟩ := id iB
  cases o
  case true =>
    clear ho
    go_wp2
    go_ret
    exact ⟨rfl, bel⟩
  obtain ⟨ua, qa⟩ := ho rfl
  clear ho
  go_wp2_with fail
  refine (out7 b _).mono ?_
  rintro e W5 ⟨⟨o, rfl, ho⟩, hb⟩
  clear na a0 a1 a2 a3 a4 a5 a6 a7 nb b0 b1 b2 b3 b4 b5 b6 b7
  replace iA := iA.step hb
  replace iB := iB.step hb
  replace bel := bel.trans (hb.mono bel.size)
  clear hb
  obtain ⟨na, a0, a1, a2, a3, a4, a5, a6, a7⟩ := id iA
  obtain ⟨nb, b0, b1, b2, b3, b4, b5, b6, b7⟩ := id iB
  cases o
  case true =>
    clear ho
    go_wp2
    go_ret
    exact ⟨rfl, bel⟩
  obtain ⟨ub, qb⟩ := ho rfl
  clear ho
  have ua' := fa.us
  have qa' := fa.rq
  have ub' := fb.us
  have qb' := fb.rq
  go_wp2_with fail
  refine (make8 a _).mono ?_
  rintro e W6 ⟨p, rfl, hp, x0, x1, x2, x3, hb⟩
  clear na a0 a1 a2 a3 a4 a5 a6 a7 nb b0 b1 b2 b3 b4 b5 b6 b7
  replace iA := iA.step hb
  replace iB := iB.step hb
  replace bel := bel.trans (hb.mono bel.size)
  clear hb
  have iP : Pod W6 p a := ⟨hp, x0, x1, x2, x3⟩
  clear hp x0 x1 x2 x3
  have q0 := fun o : Obj => (iB.step (Joins1 W6 o)).2.1
  have q1 := fun o : Obj => (iB.step (Joins1 W6 o)).2.2.1
  have q2 := fun o : Obj => (iB.step (Joins1 W6 o)).2.2.2.1
  have q3 := fun o : Obj => (iB.step (Joins1 W6 o)).2.2.2.2.1
  have q4 := fun o : Obj => (iB.step (Joins1 W6 o)).2.2.2.2.2.1
  have q5 := fun o : Obj => (iB.step (Joins1 W6 o)).2.2.2.2.2.2.1
  have q6 := fun o : Obj => (iB.step (Joins1 W6 o)).2.2.2.2.2.2.2.1
  have q7 := fun o : Obj => (iB.step (Joins1 W6 o)).2.2.2.2.2.2.2.2
  go_wp2_with fail
  clear q0 q1 q2 q3 q4 q5 q6 q7
  refine (make8 b _).mono ?_
  rintro e W7 ⟨p', rfl, hp, x0, x1, x2, x3, hb⟩
  have iC : Cand W7 W6.heap.size p a := Cand.step ⟨by simp, by go_simp, by go_simp, by go_simp, by go_simp, by go_simp⟩ hb
  replace iA := (iA.step (Joins1 W6 _)).step hb
  replace iB := (iB.step (Joins1 W6 _)).step hb
  replace iP := (iP.step (Joins1 W6 _)).step hb
  replace bel := (bel.trans ((Joins1 W6 _).mono bel.size)).trans (hb.mono (by have := bel.size; simp; omega))
  have iQ : Pod W7 p' b := ⟨hp, x0, x1, x2, x3⟩
  clear hp x0 x1 x2 x3 hb
  have c0 := fun o : Obj => (iC.step (Joins1 W7 o)).2.1
  have c1 := fun o : Obj => (iC.step (Joins1 W7 o)).2.2.1
  have c2 := fun o : Obj => (iC.step (Joins1 W7 o)).2.2.2.1
  have c3 := fun o : Obj => (iC.step (Joins1 W7 o)).2.2.2.2.1
  have c4 := fun o : Obj => (iC.step (Joins1 W7 o)).2.2.2.2.2
  go_wp2_with fail
  clear c0 c1 c2 c3 c4
  have jP := iP.step (Joins1 W7 (.cells #[.pointer (some ⟨p', 0, none⟩), .int .i64 b.us, .bool b.rep, .int .i64 b.rq, .bool b.rqd] 28))
  have jQ := iQ.step (Joins1 W7 (.cells #[.pointer (some ⟨p', 0, none⟩), .int .i64 b.us, .bool b.rep, .int .i64 b.rq, .bool b.rqd] 28))
  refine (zzcompare9 p p' a b 0 _ jP.2.1 jP.2.2.1 jP.2.2.2.1 jP.2.2.2.2 jP.1 jQ.2.1 jQ.2.2.1 jQ.2.2.2.1 jQ.2.2.2.2 jQ.1 ua ua' qa qa' ub ub' qb qb').mono ?_
  rintro e W8 ⟨rfl, hb⟩
  clear jP jQ
  have iD : Cand W8 W7.heap.size p' b := Cand.step ⟨by simp, by go_simp, by go_simp, by go_simp, by go_simp, by go_simp⟩ hb
  replace iA := (iA.step (Joins1 W7 _)).step hb
  replace iB := (iB.step (Joins1 W7 _)).step hb
  replace iP := (iP.step (Joins1 W7 _)).step hb
  replace iQ := (iQ.step (Joins1 W7 _)).step hb
  replace iC := (iC.step (Joins1 W7 _)).step hb
  replace bel := (bel.trans ((Joins1 W7 _).mono bel.size)).trans (hb.mono (by have := bel.size; simp; omega))
  clear hb
  obtain ⟨_, c0, c1, c2, c3, c4⟩ := id iC
  obtain ⟨_, d0, d1, d2, d3, d4⟩ := id iD
  go_wp2_with fail
  refine (zzcompare9 p p' a b 1 _ iP.2.1 iP.2.2.1 iP.2.2.2.1 iP.2.2.2.2 iP.1 iQ.2.1 iQ.2.2.1 iQ.2.2.2.1 iQ.2.2.2.2 iQ.1 ua ua' qa qa' ub ub' qb qb').mono ?_
  rintro e W9 ⟨rfl, hb⟩
  clear c0 c1 c2 c3 c4 d0 d1 d2 d3 d4 iP iQ iC iD
  replace iA := iA.step hb
  replace iB := iB.step hb
  replace bel := bel.trans (hb.mono bel.size)
  clear hb ua ua' qa qa' ub ub' qb qb'
  obtain ⟨na, a0, a1, a2, a3, a4, a5, a6, a7⟩ := id iA
  go_wp2_with fail
  refine (exc12 a _).mono ?_
  rintro e w1 ⟨rfl, rfl⟩
  clear na a0 a1 a2 a3 a4 a5 a6 a7
  replace iA := iA.step (Joins1 W9 (.cells #[.string a.ns, .string a.nm, .string a.ud, .int .i32 a.pr, .int .i64 a.us, .bool a.rep, .int .i64 a.rq, .bool a.rqd] 23))
  replace iB := iB.step (Joins1 W9 (.cells #[.string a.ns, .string a.nm, .string a.ud, .int .i32 a.pr, .int .i64 a.us, .bool a.rep, .int .i64 a.rq, .bool a.rqd] 23))
  replace bel := bel.trans ((Joins1 W9 (.cells #[.string a.ns, .string a.nm, .string a.ud, .int .i32 a.pr, .int .i64 a.us, .bool a.rep, .int .i64 a.rq, .bool a.rqd] 23)).mono bel.size)
  obtain ⟨nb, b0, b1, b2, b3, b4, b5, b6, b7⟩ := id iB
  go_wp2_with fail
  clear nb b0 b1 b2 b3 b4 b5 b6 b7
  refine (exc12 b _).mono ?_
  rintro e W ⟨rfl, hW⟩
  have hb := Joins1 (W9.alloc (.cells #[.string a.ns, .string a.nm, .string a.ud, .int .i32 a.pr, .int .i64 a.us, .bool a.rep, .int .i64 a.rq, .bool a.rqd] 23)) (.cells #[.string b.ns, .string b.nm, .string b.ud, .int .i32 b.pr, .int .i64 b.us, .bool b.rep, .int .i64 b.rq, .bool b.rqd] 23)
  rw [← hW] at hb
  clear hW
  replace iA := iA.step hb
  replace iB := iB.step hb
  replace bel := bel.trans (hb.mono bel.size)
  clear hb
  obtain ⟨na, a0, a1, a2, a3, a4, a5, a6, a7⟩ := id iA
  obtain ⟨nb, b0, b1, b2, b3, b4, b5, b6, b7⟩ := id iB
  clear iA iB
  cases hab : a.rep == b.rep
  · have hr := r_rep hab
    have hq0 := fun h => q_rep (a := a) (b := b) h hab
    have HQ : Hid (a.pr = b.pr → cmpF 1 a b = if a.rep then 1 else -1) := hq0
    clear hq0
    cases ha : a.rep
    all_goals
      rw [ha] at hr hab
      have hb : b.rep = !a.rep := by rw [ha]; cases hbb : b.rep <;> simp [hbb] at hab <;> rfl
      rw [ha] at hb
      clear hab
      rcases Int.lt_trichotomy a.pr b.pr with hp | hp | hp
      · have hq := q_lt hp
        have hp' : (a.pr != b.pr) = true := by simp; omega
        go_wp2
        go_ret
        exact ⟨rfl, bel⟩
      · have hq := HQ.out hp
        rw [ha] at hq
        have hp' : (a.pr != b.pr) = false := by simp; omega
        go_wp2
        go_ret
        exact ⟨rfl, bel⟩
      · have hq := q_gt hp
        have hp' : (a.pr != b.pr) = true := by simp; omega
        go_wp2
        go_ret
        exact ⟨rfl, bel⟩
  · have hab' : a.rep = b.rep := by simpa using hab
    have HAB : Hid (a.rep = b.rep) := hab'
    clear hab'
    cases hx : exc a == exc b
    · have hr := r_exc HAB.out hx
      cases ha : exc a
      all_goals
        rw [ha] at hr hx
        have hb : exc b = !exc a := by rw [ha]; cases hbb : exc b <;> simp [hbb] at hx <;> rfl
        rw [ha] at hb
        clear hx
        rcases Int.lt_trichotomy a.pr b.pr with hp | hp | hp
        · have hq := q_lt hp
          have hp' : (a.pr != b.pr) = true := by simp; omega
          go_wp2
          go_ret
          exact ⟨rfl, bel⟩
        · have hp' : (a.pr != b.pr) = false := by simp; omega
          go_wp2
          go_ret
          exact ⟨rfl, bel⟩
        · have hq := q_gt hp
          have hp' : (a.pr != b.pr) = true := by simp; omega
          go_wp2
          go_ret
          exact ⟨rfl, bel⟩
    · have hr := r_q HAB.out (by simpa using hx)
      rcases Int.lt_trichotomy a.pr b.pr with hp | hp | hp
      · have hq := q_lt hp
        have hp' : (a.pr != b.pr) = true := by simp; omega
        go_wp2
        go_ret
        exact ⟨rfl, bel⟩
      · have hp' : (a.pr != b.pr) = false := by simp; omega
        go_wp2
        go_ret
        exact ⟨rfl, bel⟩
      · have hq := q_gt hp
        have hp' : (a.pr != b.pr) = true := by simp; omega
        go_wp2
        go_ret
        exact ⟨rfl, bel⟩

end Go.Proofs.Qxb6618543a
