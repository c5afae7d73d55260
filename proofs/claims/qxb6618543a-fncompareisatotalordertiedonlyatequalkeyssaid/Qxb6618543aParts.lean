/- Contracts of the smaller functions on the two roads: ZZcompare, candBig, candOut, candMake, the two zzBytes. -/
import Derived.Test.Qxb6618543aCompare
import Derived.WalkKit
import Derived.WalkSpells
import Derived.WalkLawsBesides
import Derived.Deep.RegionHeld3
import Derived.Laws.EntriesVeiled
import Derived.Deep.DeepCutAuto
import Derived.Laws.ResultCell
set_option linter.unusedSimpArgs false
set_option linter.unusedVariables false
namespace Go.Proofs.Qxb6618543a
open Go.RowKit

theorem old {w w' : World} (h : Below w.heap.size w w') {b o : Nat} (hb : b < w.heap.size) {v : Value} (hc : w.cell? ⟨b, o, none⟩ = some v) : w'.cell? ⟨b, o, none⟩ = some v :=
  (h.cell (p := ⟨b, o, none⟩) hb).trans hc

set_option maxHeartbeats 400000 in
theorem zzcompare9 (pa pb : Nat) (a b : Cd) (l : Int) (w : World) (xa0 : w.cell? ⟨pa, 0, none⟩ = some (.string a.ns)) (xa1 : w.cell? ⟨pa, 1, none⟩ = some (.string a.nm)) (xa2 : w.cell? ⟨pa, 2, none⟩ = some (.string a.ud)) (xa3 : w.cell? ⟨pa, 3, none⟩ = some (.int .i32 a.pr)) (hpa : pa < w.heap.size) (xb0 : w.cell? ⟨pb, 0, none⟩ = some (.string b.ns)) (xb1 : w.cell? ⟨pb, 1, none⟩ = some (.string b.nm)) (xb2 : w.cell? ⟨pb, 2, none⟩ = some (.string b.ud)) (xb3 : w.cell? ⟨pb, 3, none⟩ = some (.int .i32 b.pr)) (hpb : pb < w.heap.size) (ua : 0 ≤ a.us) (ua' : a.us ≤ 9223372036854775807) (qa : 0 ≤ a.rq) (qa' : a.rq ≤ 9223372036854775807) (ub : 0 ≤ b.us) (ub' : b.us ≤ 9223372036854775807) (qb : 0 ≤ b.rq) (qb' : b.rq ≤ 9223372036854775807) :
    Calls Try.prog 9 #[.int .i64 l, .agg #[.pointer (some ⟨pa, 0, none⟩), .int .i64 a.us, .bool a.rep, .int .i64 a.rq, .bool a.rqd], .agg #[.pointer (some ⟨pb, 0, none⟩), .int .i64 b.us, .bool b.rep, .int .i64 b.rq, .bool b.rqd]] w fun e w' => e = .returned (.int .i64 (cmpF l a b)) ∧ Below w.heap.size w w' := by
  have bel : ∀ o1 o2 : Obj, Below w.heap.size w ((w.alloc o1).alloc o2) := fun o1 o2 => ((Below.refl w.heap.size w).alloc (Nat.le_refl _) o1).alloc (by simp) o2
  go_enter Try.func9, Try.ntmps9
  go_wp2_with fail
  refine (compare13 pa pb a b l _ (old (bel _ _) hpa xa0) (old (bel _ _) hpa xa1) (old (bel _ _) hpa xa2) (old (bel _ _) hpa xa3) (by simp; omega) (old (bel _ _) hpb xb0) (old (bel _ _) hpb xb1) (old (bel _ _) hpb xb2) (old (bel _ _) hpb xb3) (by simp; omega) ua ua' qa qa' ub ub' qb qb').mono ?_
  rintro e w' ⟨rfl, hb⟩
  go_wp2
  go_ret
  exact ⟨rfl, (bel _ _).trans (hb.mono (by simp; omega))⟩

def IsB (e : Ending) : Prop := ∃ o, e = .returned (.bool o)
def OutOk (c : Cd) (e : Ending) : Prop := ∃ o, e = .returned (.bool o) ∧ (o = false → 0 ≤ c.us ∧ 0 ≤ c.rq)

set_option maxHeartbeats 400000 in
theorem big6 (c : Cd) (w : World) (h0 : c.ns.size ≤ maxLen) (h1 : c.nm.size ≤ maxLen) (h2 : c.ud.size ≤ maxLen) :
    Calls Try.prog 6 #[.agg #[.string c.ns, .string c.nm, .string c.ud, .int .i32 c.pr, .int .i64 c.us, .bool c.rep, .int .i64 c.rq, .bool c.rqd]] w fun e w' => IsB e ∧ Below w.heap.size w w' := by
  unfold maxLen at h0 h1 h2
  go_enter Try.func6, Try.ntmps6
  go_wp2
  all_goals
    go_ret
    exact ⟨⟨_, rfl⟩, (Below.refl _ _).alloc (Nat.le_refl _) _⟩

set_option maxHeartbeats 400000 in
theorem out7 (c : Cd) (w : World) :
    Calls Try.prog 7 #[.agg #[.string c.ns, .string c.nm, .string c.ud, .int .i32 c.pr, .int .i64 c.us, .bool c.rep, .int .i64 c.rq, .bool c.rqd]] w fun e w' => OutOk c e ∧ Below w.heap.size w w' := by
  go_enter Try.func7, Try.ntmps7
  go_wp2
  all_goals
    go_ret
    first
      | exact ⟨⟨true, rfl, by simp⟩, (Below.refl _ _).alloc (Nat.le_refl _) _⟩
      | exact ⟨⟨_, rfl, fun _ => by omega⟩, (Below.refl _ _).alloc (Nat.le_refl _) _⟩

set_option maxHeartbeats 400000 in
theorem make8 (c : Cd) (w : World) :
    Calls Try.prog 8 #[.agg #[.string c.ns, .string c.nm, .string c.ud, .int .i32 c.pr, .int .i64 c.us, .bool c.rep, .int .i64 c.rq, .bool c.rqd]] w fun e w' => ∃ p, e = .returned (.agg #[.pointer (some ⟨p, 0, none⟩), .int .i64 c.us, .bool c.rep, .int .i64 c.rq, .bool c.rqd]) ∧ p < w'.heap.size ∧ w'.cell? ⟨p, 0, none⟩ = some (.string c.ns) ∧ w'.cell? ⟨p, 1, none⟩ = some (.string c.nm) ∧ w'.cell? ⟨p, 2, none⟩ = some (.string c.ud) ∧ w'.cell? ⟨p, 3, none⟩ = some (.int .i32 c.pr) ∧ Below w.heap.size w w' := by
  go_enter Try.func8, Try.ntmps8
  go_wp2
  refine bodyPost_ret (v := .agg #[.pointer (some ⟨w.heap.size + 1 + 1, 0, none⟩), .int .i64 c.us, .bool c.rep, .int .i64 c.rq, .bool c.rqd]) (by simp [results, Try.results8, go_sem]) rfl ⟨w.heap.size + 1 + 1, rfl, ?_, ?_, ?_, ?_, ?_, ?_⟩
  · simp
  · go_simp
  · go_simp
  · go_simp
  · go_simp
  · exact ((((Below.refl w.heap.size w).alloc (Nat.le_refl _) _).alloc (by simp) _).alloc (by simp; omega) _)

set_option maxHeartbeats 1000000 in
theorem bytes11 (a b : Cd) (w : World) (ha0 : a.ns.size ≤ maxLen) (ha1 : a.nm.size ≤ maxLen) (ha2 : a.ud.size ≤ maxLen) (hb0 : b.ns.size ≤ maxLen) (hb1 : b.nm.size ≤ maxLen) (hb2 : b.ud.size ≤ maxLen) :
    Calls Try.prog 11 #[.agg #[.string a.ns, .string a.nm, .string a.ud, .int .i32 a.pr, .int .i64 a.us, .bool a.rep, .int .i64 a.rq, .bool a.rqd], .agg #[.string b.ns, .string b.nm, .string b.ud, .int .i32 b.pr, .int .i64 b.us, .bool b.rep, .int .i64 b.rq, .bool b.rqd]] w fun e w' => IsB e ∧ Below w.heap.size w w' := by
  unfold maxLen at ha0 ha1 ha2 hb0 hb1 hb2
  go_enter Try.func11, Try.ntmps11
  go_wp2
  all_goals
    go_ret
    exact ⟨⟨_, rfl⟩, ((Below.refl _ _).alloc (Nat.le_refl _) _).alloc (by simp) _⟩

set_option maxHeartbeats 1000000 in
theorem bytes5 (l : Int) (a b c : Cd) (w : World) (ha0 : a.ns.size ≤ maxLen) (ha1 : a.nm.size ≤ maxLen) (ha2 : a.ud.size ≤ maxLen) (hb0 : b.ns.size ≤ maxLen) (hb1 : b.nm.size ≤ maxLen) (hb2 : b.ud.size ≤ maxLen) (hc0 : c.ns.size ≤ maxLen) (hc1 : c.nm.size ≤ maxLen) (hc2 : c.ud.size ≤ maxLen) :
    Calls Try.prog 5 #[.int .i64 l, .agg #[.string a.ns, .string a.nm, .string a.ud, .int .i32 a.pr, .int .i64 a.us, .bool a.rep, .int .i64 a.rq, .bool a.rqd], .agg #[.string b.ns, .string b.nm, .string b.ud, .int .i32 b.pr, .int .i64 b.us, .bool b.rep, .int .i64 b.rq, .bool b.rqd], .agg #[.string c.ns, .string c.nm, .string c.ud, .int .i32 c.pr, .int .i64 c.us, .bool c.rep, .int .i64 c.rq, .bool c.rqd]] w fun e w' => IsB e ∧ Below w.heap.size w w' := by
  unfold maxLen at ha0 ha1 ha2 hb0 hb1 hb2 hc0 hc1 hc2
  go_enter Try.func5, Try.ntmps5
  go_wp2
  all_goals
    go_ret
    exact ⟨⟨_, rfl⟩, (((Below.refl _ _).alloc (Nat.le_refl _) _).alloc (by simp) _).alloc (by simp; omega) _⟩

end Go.Proofs.Qxb6618543a
