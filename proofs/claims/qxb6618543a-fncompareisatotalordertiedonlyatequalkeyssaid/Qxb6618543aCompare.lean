import Derived.Test.Qxb6618543aLeaves
import Derived.WalkKit
import Derived.WalkSpells
import Derived.WalkLawsBesides
import Derived.Deep.RegionHeld3
import Derived.Laws.EntriesVeiled
import Derived.Deep.DeepCutAuto
set_option linter.unusedSimpArgs false
set_option linter.unusedVariables false
namespace Go.Proofs.Qxb6618543a
open Go.RowKit


set_option maxHeartbeats 1000000 in
set_option maxRecDepth 100000 in
theorem compare13 (pa pb : Nat) (a b : Cd) (l : Int) (w : World) (xa0 : w.cell? ⟨pa, 0, none⟩ = some (.string a.ns)) (xa1 : w.cell? ⟨pa, 1, none⟩ = some (.string a.nm)) (xa2 : w.cell? ⟨pa, 2, none⟩ = some (.string a.ud)) (xa3 : w.cell? ⟨pa, 3, none⟩ = some (.int .i32 a.pr)) (hpa : pa < w.heap.size) (xb0 : w.cell? ⟨pb, 0, none⟩ = some (.string b.ns)) (xb1 : w.cell? ⟨pb, 1, none⟩ = some (.string b.nm)) (xb2 : w.cell? ⟨pb, 2, none⟩ = some (.string b.ud)) (xb3 : w.cell? ⟨pb, 3, none⟩ = some (.int .i32 b.pr)) (hpb : pb < w.heap.size) (ua : 0 ≤ a.us) (ua' : a.us ≤ 9223372036854775807) (qa : 0 ≤ a.rq) (qa' : a.rq ≤ 9223372036854775807) (ub : 0 ≤ b.us) (ub' : b.us ≤ 9223372036854775807) (qb : 0 ≤ b.rq) (qb' : b.rq ≤ 9223372036854775807) :
    Calls Try.prog 13 #[.agg #[.string ⟨#[]⟩, .nilFunc, .nilFunc, .nilFunc, .int .i64 l], .agg #[.pointer (some ⟨pa, 0, none⟩), .int .i64 a.us, .bool a.rep, .int .i64 a.rq, .bool a.rqd], .agg #[.pointer (some ⟨pb, 0, none⟩), .int .i64 b.us, .bool b.rep, .int .i64 b.rq, .bool b.rqd]] w fun e w' => e = .returned (.int .i64 (cmpF l a b)) ∧ Below w.heap.size w w' := by
  go_enter Try.func13, Try.ntmps13
  go_upto_if 11 with (fail)
  go_cut [7] (fun s7 wc => s7 = .int .i64 (reqF l a b) ∧ Below w.heap.size w wc ∧ w.heap.size + 1 + 1 < wc.heap.size ∧ (wc.cell? ⟨w.heap.size + 1, 0, none⟩ = some (.pointer (some ⟨pa, 0, none⟩)) ∧ wc.cell? ⟨w.heap.size + 1, 1, none⟩ = some (.int .i64 a.us) ∧ wc.cell? ⟨w.heap.size + 1, 2, none⟩ = some (.bool a.rep) ∧ wc.cell? ⟨w.heap.size + 1, 3, none⟩ = some (.int .i64 a.rq) ∧ wc.cell? ⟨w.heap.size + 1, 4, none⟩ = some (.bool a.rqd)) ∧ (wc.cell? ⟨w.heap.size + 1 + 1, 0, none⟩ = some (.pointer (some ⟨pb, 0, none⟩)) ∧ wc.cell? ⟨w.heap.size + 1 + 1, 1, none⟩ = some (.int .i64 b.us) ∧ wc.cell? ⟨w.heap.size + 1 + 1, 2, none⟩ = some (.bool b.rep) ∧ wc.cell? ⟨w.heap.size + 1 + 1, 3, none⟩ = some (.int .i64 b.rq) ∧ wc.cell? ⟨w.heap.size + 1 + 1, 4, none⟩ = some (.bool b.rqd)))
  case first =>
    by_cases hl : l = 0
    · subst hl
      go_wp2
      go_region_held3 (fun w' => w'.cell? ⟨w.heap.size + 1, 0, none⟩ = some (.pointer (some ⟨pa, 0, none⟩)) ∧ w'.cell? ⟨w.heap.size + 1, 1, none⟩ = some (.int .i64 a.us) ∧ w'.cell? ⟨w.heap.size + 1, 2, none⟩ = some (.bool a.rep) ∧ w'.cell? ⟨w.heap.size + 1, 3, none⟩ = some (.int .i64 a.rq) ∧ w'.cell? ⟨w.heap.size + 1, 4, none⟩ = some (.bool a.rqd) ∧ w'.cell? ⟨w.heap.size + 1 + 1, 0, none⟩ = some (.pointer (some ⟨pb, 0, none⟩)) ∧ w'.cell? ⟨w.heap.size + 1 + 1, 1, none⟩ = some (.int .i64 b.us) ∧ w'.cell? ⟨w.heap.size + 1 + 1, 2, none⟩ = some (.bool b.rep) ∧ w'.cell? ⟨w.heap.size + 1 + 1, 3, none⟩ = some (.int .i64 b.rq) ∧ w'.cell? ⟨w.heap.size + 1 + 1, 4, none⟩ = some (.bool b.rqd))
        (first | go_simp | go_keep)
        (first
          | (go_at_call 15; refine (cmpBool _ _ _).mono ?_; rintro e w' ⟨rfl, rfl⟩)
          | (go_at_call 16; refine (exc16 _ _ _ _ _ _).mono ?_; rintro e w' ⟨rfl, rfl⟩)
          | (go_at_call 14; refine (or14 [cb a.rep b.rep, cb (exc b) (exc a)] _ _ _ (by simp) (fun i hi => ?_)).mono ?_; (have h2 : i = 0 ∨ i = 1 := (by simp at hi; omega)); (rcases h2 with rfl | rfl <;> go_simp <;> simp [exc]); rintro e w' ⟨rfl, rfl⟩))
      go_wp2
      go_meet
      case rel => exact ⟨rfl, ((((((((Below.refl w.heap.size w).alloc (Nat.le_refl _) _).alloc (by simp) _).alloc (by simp; omega) _).alloc (by simp; omega) _).alloc (by simp; omega) _).alloc (by simp; omega) _).drew), by simp, by go_simp, by go_simp⟩
    · have hl' : (l == 0) = false := by simpa using hl
      go_wp2
      go_meet
      case rel => exact ⟨by simp [reqF, hl], ((((Below.refl w.heap.size w).alloc (Nat.le_refl _) _).alloc (by simp) _).alloc (by simp; omega) _), by simp, by go_simp, by go_simp⟩
  case rest =>
    obtain ⟨rfl, bel, hsz, ⟨s0, s1, s2, s3, s4⟩, ⟨t0, t1, t2, t3, t4⟩⟩ := hcut
    obtain ⟨ra, hra⟩ : ∃ ra, Hid (a.rep = ra) := ⟨_, rfl⟩
    have s2' : wc.cell? ⟨w.heap.size + 1, 2, none⟩ = some (.bool ra) := by rw [s2, hra.out]
    have S2 : Hid (wc.cell? ⟨w.heap.size + 1, 2, none⟩ = some (.bool a.rep)) := s2
    clear s2
    go_upto_if 25 with (fail)
    go_cut [8] (fun s8 wd => s8 = .int .i64 (beyF a b) ∧ wd = wc)
    case first =>
      cases ra
      · go_wp2
        go_meet
        case rel => exact ⟨by simp [beyF, hra.out], rfl⟩
      · go_wp2_with fail
        refine (cmp64 _ _ _).mono ?_
        rintro e w' ⟨rfl, rfl⟩
        go_wp2
        go_meet
        case rel => exact ⟨by simp [beyF, hra.out], rfl⟩
    case rest =>
      obtain ⟨rfl, rfl⟩ := hcut
      have s2 := S2.out
      clear s2' S2 hra
      have y0 := (bel.cell (p := ⟨pa, 0, none⟩) hpa).trans xa0
      have y1 := (bel.cell (p := ⟨pa, 1, none⟩) hpa).trans xa1
      have y2 := (bel.cell (p := ⟨pa, 2, none⟩) hpa).trans xa2
      have y3 := (bel.cell (p := ⟨pa, 3, none⟩) hpa).trans xa3
      have z0 := (bel.cell (p := ⟨pb, 0, none⟩) hpb).trans xb0
      have z1 := (bel.cell (p := ⟨pb, 1, none⟩) hpb).trans xb1
      have z2 := (bel.cell (p := ⟨pb, 2, none⟩) hpb).trans xb2
      have z3 := (bel.cell (p := ⟨pb, 3, none⟩) hpb).trans xb3
      clear xa0 xa1 xa2 xa3 xb0 xb1 xb2 xb3
      go_wp2
      go_region_held3 (fun w' => w'.cell? ⟨w.heap.size + 1, 0, none⟩ = some (.pointer (some ⟨pa, 0, none⟩)) ∧ w'.cell? ⟨w.heap.size + 1, 2, none⟩ = some (.bool a.rep) ∧ w'.cell? ⟨w.heap.size + 1 + 1, 0, none⟩ = some (.pointer (some ⟨pb, 0, none⟩)) ∧ w'.cell? ⟨w.heap.size + 1 + 1, 2, none⟩ = some (.bool b.rep) ∧ w'.cell? ⟨pa, 0, none⟩ = some (.string a.ns) ∧ w'.cell? ⟨pa, 1, none⟩ = some (.string a.nm) ∧ w'.cell? ⟨pa, 2, none⟩ = some (.string a.ud) ∧ w'.cell? ⟨pa, 3, none⟩ = some (.int .i32 a.pr) ∧ w'.cell? ⟨pb, 0, none⟩ = some (.string b.ns) ∧ w'.cell? ⟨pb, 1, none⟩ = some (.string b.nm) ∧ w'.cell? ⟨pb, 2, none⟩ = some (.string b.ud) ∧ w'.cell? ⟨pb, 3, none⟩ = some (.int .i32 b.pr))
        (go_keep)
        (first
          | (go_at_call 15; refine (cmpBool _ _ _).mono ?_; rintro e w' ⟨rfl, rfl⟩)
          | (go_at_call 18; refine (cmp32 _ _ _).mono ?_; rintro e w' ⟨rfl, rfl⟩)
          | (go_at_call 19; refine (cmpStr _ _ _).mono ?_; rintro e w' ⟨rfl, rfl⟩)
          | (go_at_call 14; refine (or14 [reqF l a b, ci a.pr b.pr, cb a.rep b.rep, beyF a b, cs a.ns b.ns, cs a.nm b.nm, cs a.ud b.ud] _ _ _ (by simp) (fun i hi => ?_)).mono ?_; (have h2 : i = 0 ∨ i = 1 ∨ i = 2 ∨ i = 3 ∨ i = 4 ∨ i = 5 ∨ i = 6 := (by simp at hi; omega)); (rcases h2 with rfl | rfl | rfl | rfl | rfl | rfl | rfl <;> go_simp); rintro e w' ⟨rfl, rfl⟩))
      go_wp2
      go_ret
      refine ⟨rfl, ?_⟩
      exact (bel.alloc (by omega) _).drew

end Go.Proofs.Qxb6618543a
