/- The contract of candTied. -/
import Derived.Test.Qxb6618543aLeaves
import Derived.WalkKit
import Derived.WalkSpells
import Derived.WalkLawsBesides
import Derived.Deep.RegionHeld3
import Derived.Laws.EntriesVeiled
import Derived.Deep.DeepCutAuto
import Derived.Deep.QuietTactic
import Derived.BigQuiet
set_option linter.unusedSimpArgs false
set_option linter.unusedVariables false
namespace Go.Proofs.Qxb6618543a
open Go.RowKit

def excV (q : Bool) (r u : Int) : Bool := q && decide (r < u)
theorem exc12v (ns nm ud : ByteArray) (pr us rq : Int) (rep rqd : Bool) (w : World) :
    Calls Try.prog 12 #[.agg #[.string ns, .string nm, .string ud, .int .i32 pr, .int .i64 us, .bool rep, .int .i64 rq, .bool rqd]] w fun e w' => e = .returned (.bool (excV rqd rq us)) ∧ w' = w.alloc (.cells #[.string ns, .string nm, .string ud, .int .i32 pr, .int .i64 us, .bool rep, .int .i64 rq, .bool rqd] 23) :=
  exc12 ⟨ns, nm, ud, pr, us, rep, rq, rqd⟩ w

set_option maxHeartbeats 4000000 in
theorem tied10 (led : Bool) (a b : Cd) (w : World) (ua : 0 ≤ a.us) (ua' : a.us ≤ 9223372036854775807) (qa : 0 ≤ a.rq) (qa' : a.rq ≤ 9223372036854775807) (ub : 0 ≤ b.us) (ub' : b.us ≤ 9223372036854775807) (qb : 0 ≤ b.rq) (qb' : b.rq ≤ 9223372036854775807) :
    Calls Try.prog 10 #[.bool led, .agg #[.string a.ns, .string a.nm, .string a.ud, .int .i32 a.pr, .int .i64 a.us, .bool a.rep, .int .i64 a.rq, .bool a.rqd], .agg #[.string b.ns, .string b.nm, .string b.ud, .int .i32 b.pr, .int .i64 b.us, .bool b.rep, .int .i64 b.rq, .bool b.rqd]] w fun e w' => e = .returned (.bool (tied led a b)) ∧ Below w.heap.size w w' := by
  cases e1 : a.ns.toList == b.ns.toList
  · have ht : tied led a b = false := by simp [tied, e1]
    rw [ht]
    go_enter Try.func10, Try.ntmps10
    go_wp2
    go_ret
    exact ⟨rfl, ((Below.refl _ _).alloc (Nat.le_refl _) _).alloc (by simp) _⟩
  cases e2 : a.nm.toList == b.nm.toList
  · have ht : tied led a b = false := by simp [tied, e2]
    rw [ht]
    go_enter Try.func10, Try.ntmps10
    go_wp2
    go_ret
    exact ⟨rfl, ((Below.refl _ _).alloc (Nat.le_refl _) _).alloc (by simp) _⟩
  cases e3 : a.ud.toList == b.ud.toList
  · have ht : tied led a b = false := by simp [tied, e3]
    rw [ht]
    go_enter Try.func10, Try.ntmps10
    go_wp2
    go_ret
    exact ⟨rfl, ((Below.refl _ _).alloc (Nat.le_refl _) _).alloc (by simp) _⟩
  by_cases e4 : a.pr = b.pr
  case neg =>
    have ht : tied led a b = false := by simp [tied, e4]
    rw [ht]
    have e4' : (a.pr == b.pr) = false := by simpa using e4
    go_enter Try.func10, Try.ntmps10
    go_wp2
    go_ret
    exact ⟨rfl, ((Below.refl _ _).alloc (Nat.le_refl _) _).alloc (by simp) _⟩
  have e4' : (a.pr == b.pr) = true := by simpa using e4
  have E4 : Hid (a.pr = b.pr) := e4
  clear e4
  cases e5 : a.rep == b.rep
  · have ht : tied led a b = false := by simp [tied, e5]
    rw [ht]
    go_enter Try.func10, Try.ntmps10
    go_wp2
    go_ret
    exact ⟨rfl, ((Below.refl _ _).alloc (Nat.le_refl _) _).alloc (by simp) _⟩
  cases hr : a.rep
  · have hrb : b.rep = false := by simpa [hr] using e5
    clear e5
    have ht : tied led a b = !(led && exc a != exc b) := by simp [tied, e1, e2, e3, E4.out, hr, hrb]
    rw [ht]
    cases led
    · go_enter Try.func10, Try.ntmps10
      go_wp2
      go_quiet (fail)
      go_wp2
      go_ret
      exact ⟨rfl, below_drewN (((Below.refl _ _).alloc (Nat.le_refl _) _).alloc (by simp) _) _⟩
    · rw [show exc a = excV a.rqd a.rq a.us from rfl, show exc b = excV b.rqd b.rq b.us from rfl]
      cases ha : excV a.rqd a.rq a.us <;> cases hb : excV b.rqd b.rq b.us
      all_goals
        go_enter Try.func10, Try.ntmps10
        go_wp2
        go_region_held3 (fun w' => w'.cell? ⟨w.heap.size, 0, none⟩ = some (.string a.ns) ∧ w'.cell? ⟨w.heap.size, 1, none⟩ = some (.string a.nm) ∧ w'.cell? ⟨w.heap.size, 2, none⟩ = some (.string a.ud) ∧ w'.cell? ⟨w.heap.size, 3, none⟩ = some (.int .i32 b.pr) ∧ w'.cell? ⟨w.heap.size, 4, none⟩ = some (.int .i64 a.us) ∧ w'.cell? ⟨w.heap.size, 5, none⟩ = some (.bool false) ∧ w'.cell? ⟨w.heap.size, 6, none⟩ = some (.int .i64 a.rq) ∧ w'.cell? ⟨w.heap.size, 7, none⟩ = some (.bool a.rqd) ∧ w'.cell? ⟨w.heap.size + 1, 0, none⟩ = some (.string b.ns) ∧ w'.cell? ⟨w.heap.size + 1, 1, none⟩ = some (.string b.nm) ∧ w'.cell? ⟨w.heap.size + 1, 2, none⟩ = some (.string b.ud) ∧ w'.cell? ⟨w.heap.size + 1, 3, none⟩ = some (.int .i32 b.pr) ∧ w'.cell? ⟨w.heap.size + 1, 4, none⟩ = some (.int .i64 b.us) ∧ w'.cell? ⟨w.heap.size + 1, 5, none⟩ = some (.bool false) ∧ w'.cell? ⟨w.heap.size + 1, 6, none⟩ = some (.int .i64 b.rq) ∧ w'.cell? ⟨w.heap.size + 1, 7, none⟩ = some (.bool b.rqd))
          (first | go_simp | go_keep)
          (first
            | (go_at_call 12; refine (exc12v _ _ _ _ _ _ _ _ _).mono ?_; rintro e w' ⟨rfl, rfl⟩))
        go_wp2
        go_ret
        exact ⟨rfl, (((((Below.refl w.heap.size w).alloc (Nat.le_refl _) _).alloc (by simp) _).alloc (by simp; omega) _).alloc (by simp; omega) _).drew⟩
  · have hrb : b.rep = true := by simpa [hr] using e5
    clear e5
    by_cases e6 : a.us - a.rq = b.us - b.rq
    case neg =>
      have ht : tied led a b = false := by simp [tied, hr, e6]
      rw [ht]
      have e6' : (a.us - a.rq == b.us - b.rq) = false := by simpa using e6
      go_enter Try.func10, Try.ntmps10
      go_wp2
      go_ret
      exact ⟨rfl, ((Below.refl _ _).alloc (Nat.le_refl _) _).alloc (by simp) _⟩
    have e6' : (a.us - a.rq == b.us - b.rq) = true := by simpa using e6
    have E6 : Hid (a.us - a.rq = b.us - b.rq) := e6
    clear e6
    have ht : tied led a b = !(led && exc a != exc b) := by simp [tied, e1, e2, e3, E4.out, hr, hrb, E6.out]
    rw [ht]
    cases led
    · go_enter Try.func10, Try.ntmps10
      go_wp2
      go_quiet (fail)
      go_wp2
      go_ret
      exact ⟨rfl, below_drewN (((Below.refl _ _).alloc (Nat.le_refl _) _).alloc (by simp) _) _⟩
    · rw [show exc a = excV a.rqd a.rq a.us from rfl, show exc b = excV b.rqd b.rq b.us from rfl]
      cases ha : excV a.rqd a.rq a.us <;> cases hb : excV b.rqd b.rq b.us
      all_goals
        go_enter Try.func10, Try.ntmps10
        go_wp2
        go_region_held3 (fun w' => w'.cell? ⟨w.heap.size, 0, none⟩ = some (.string a.ns) ∧ w'.cell? ⟨w.heap.size, 1, none⟩ = some (.string a.nm) ∧ w'.cell? ⟨w.heap.size, 2, none⟩ = some (.string a.ud) ∧ w'.cell? ⟨w.heap.size, 3, none⟩ = some (.int .i32 b.pr) ∧ w'.cell? ⟨w.heap.size, 4, none⟩ = some (.int .i64 a.us) ∧ w'.cell? ⟨w.heap.size, 5, none⟩ = some (.bool true) ∧ w'.cell? ⟨w.heap.size, 6, none⟩ = some (.int .i64 a.rq) ∧ w'.cell? ⟨w.heap.size, 7, none⟩ = some (.bool a.rqd) ∧ w'.cell? ⟨w.heap.size + 1, 0, none⟩ = some (.string b.ns) ∧ w'.cell? ⟨w.heap.size + 1, 1, none⟩ = some (.string b.nm) ∧ w'.cell? ⟨w.heap.size + 1, 2, none⟩ = some (.string b.ud) ∧ w'.cell? ⟨w.heap.size + 1, 3, none⟩ = some (.int .i32 b.pr) ∧ w'.cell? ⟨w.heap.size + 1, 4, none⟩ = some (.int .i64 b.us) ∧ w'.cell? ⟨w.heap.size + 1, 5, none⟩ = some (.bool true) ∧ w'.cell? ⟨w.heap.size + 1, 6, none⟩ = some (.int .i64 b.rq) ∧ w'.cell? ⟨w.heap.size + 1, 7, none⟩ = some (.bool b.rqd))
          (first | go_simp | go_keep)
          (first
            | (go_at_call 12; refine (exc12v _ _ _ _ _ _ _ _ _).mono ?_; rintro e w' ⟨rfl, rfl⟩))
        go_wp2
        go_ret
        exact ⟨rfl, (((((Below.refl w.heap.size w).alloc (Nat.le_refl _) _).alloc (by simp) _).alloc (by simp; omega) _).alloc (by simp; omega) _).drew⟩

end Go.Proofs.Qxb6618543a
