/- The walk of FnNamesEmptyExactlyWhenEveryPartIs. -/
import Derived.Test.Qxb6618616aDomains
import Derived.WalkKit
import Derived.WalkSpells
import Derived.WalkLawsBesides
import Derived.Deep.RegionHeld3
set_option linter.unusedSimpArgs false
set_option linter.unusedVariables false
namespace Go.Proofs.Qxb6618616a
open Go.RowKit

theorem empty18t (v0 v1 v2 v3 : Option Addr) (n0 n1 n2 n3 c0 c1 c2 c3 : Nat) (w : World) (h0 : n0 ≤ 1048576) (h1 : n1 ≤ 1048576) (h2 : n2 ≤ 1048576) (h3 : n3 ≤ 1048576) (h : n0 + n1 + n2 + n3 = 0) :
    Calls Try.prog 18 #[.agg #[.slice v0 n0 c0, .slice v1 n1 c1, .slice v2 n2 c2, .slice v3 n3 c3]] w fun e w' => e = .returned (.bool true) ∧ w' = w.alloc (.cells #[.slice v0 n0 c0, .slice v1 n1 c1, .slice v2 n2 c2, .slice v3 n3 c3] 41) := by
  have := empty18 v0 v1 v2 v3 n0 n1 n2 n3 c0 c1 c2 c3 w h0 h1 h2 h3
  rw [h] at this
  exact this
theorem empty18f (v0 v1 v2 v3 : Option Addr) (n0 n1 n2 n3 c0 c1 c2 c3 : Nat) (w : World) (h0 : n0 ≤ 1048576) (h1 : n1 ≤ 1048576) (h2 : n2 ≤ 1048576) (h3 : n3 ≤ 1048576) (h : ¬ n0 + n1 + n2 + n3 = 0) :
    Calls Try.prog 18 #[.agg #[.slice v0 n0 c0, .slice v1 n1 c1, .slice v2 n2 c2, .slice v3 n3 c3]] w fun e w' => e = .returned (.bool false) ∧ w' = w.alloc (.cells #[.slice v0 n0 c0, .slice v1 n1 c1, .slice v2 n2 c2, .slice v3 n3 c3] 41) := by
  have := empty18 v0 v1 v2 v3 n0 n1 n2 n3 c0 c1 c2 c3 w h0 h1 h2 h3
  rw [show (n0 + n1 + n2 + n3 == 0) = false by simpa using h] at this
  exact this

theorem bel_alloc {B : Nat} {a w : World} (h : Below B a w) (o : Obj) (hB : B ≤ a.heap.size) : Below B a (w.alloc o) := h.alloc (Nat.le_trans hB h.size) o

set_option maxRecDepth 100000 in
set_option maxHeartbeats 4000000 in
theorem law6 (a0 : Option Addr) (l0 c0 : Nat) (a1 : Option Addr) (l1 c1 : Nat) (a2 : Option Addr) (l2 c2 : Nat) (a3 : Option Addr) (l3 c3 : Nat) (a4 : Option Addr) (l4 c4 : Nat) (a5 : Option Addr) (l5 c5 : Nat) (ti fi vi di : Int) (w : World) (h0 : l0 ≤ 9223372036854775807) (s0 : Strs w a0 l0) (h1 : l1 ≤ 9223372036854775807) (s1 : Strs w a1 l1) (h2 : l2 ≤ 9223372036854775807) (s2 : Strs w a2 l2) (h3 : l3 ≤ 9223372036854775807) (s3 : Strs w a3 l3) (h4 : l4 ≤ 9223372036854775807) (s4 : Strs w a4 l4) (h5 : l5 ≤ 9223372036854775807) (s5 : Strs w a5 l5) (g0 : l0 ≤ c0) (g1 : l1 ≤ c1) (g2 : l2 ≤ c2) (g3 : l3 ≤ c3) (g4 : l4 ≤ c4) (g5 : l5 ≤ c5) :
    Calls Try.prog 6 #[.slice a0 l0 c0, .slice a1 l1 c1, .slice a2 l2 c2, .slice a3 l3 c3, .slice a4 l4 c4, .slice a5 l5 c5, .int .i64 ti, .int .i64 fi, .int .i64 vi, .int .i64 di] w fun e w' => e = .returned (.bool true) ∧ Below w.heap.size w w' := by
  go_enter Try.func6, Try.ntmps6
  go_wp2_with fail
  refine (bytes19 a0 l0 c0 a1 l1 c1 a2 l2 c2 a3 l3 c3 a4 l4 c4 a5 l5 c5 ti fi vi di w h0 s0 h1 s1 h2 s2 h3 s3 h4 s4 h5 s5).mono ?_
  rintro e w' ⟨⟨o, rfl, ho⟩, rfl⟩
  cases o
  · go_wp2
    go_ret
    exact ⟨rfl, Below.refl _ _⟩
  have b0 : l0 ≤ 1048576 := ho rfl _ (by simp)
  have b1 : l1 ≤ 1048576 := ho rfl _ (by simp)
  have b2 : l2 ≤ 1048576 := ho rfl _ (by simp)
  have b3 : l3 ≤ 1048576 := ho rfl _ (by simp)
  clear ho
  go_wp2_with fail
  refine (tooBig14 a0 l0 c0 a1 l1 c1 a2 l2 c2 a3 l3 c3 a4 l4 c4 a5 l5 c5 w h0 s0 h1 s1 h2 s2 h3 s3 h4 s4 h5 s5).mono ?_
  rintro e w' ⟨⟨o, rfl⟩, rfl⟩
  cases o
  case true =>
    go_wp2
    go_ret
    exact ⟨rfl, Below.refl _ _⟩
  clear s0 s1 s2
  by_cases e4 : l4 = l3
  case neg =>
    have e4' : ((l4 : Int) != (l3 : Int)) = true := by simp; omega
    go_wp2
    go_ret
    exact ⟨rfl, Below.refl _ _⟩
  by_cases e5 : l5 = l3
  case neg =>
    have e4' : ((l4 : Int) != (l3 : Int)) = false := by simp; omega
    have e5' : ((l5 : Int) != (l3 : Int)) = true := by simp; omega
    clear e4
    go_wp2
    go_ret
    exact ⟨rfl, Below.refl _ _⟩
  subst e4 e5
  by_cases H : (0 ≤ ti ∧ ti ≤ l0) ∧ (0 ≤ fi ∧ fi ≤ l1) ∧ (0 ≤ vi ∧ vi ≤ l2) ∧ (0 ≤ di ∧ di ≤ l5)
  case neg =>
    have HH : Hid (¬ ((0 ≤ ti ∧ ti ≤ l0) ∧ (0 ≤ fi ∧ fi ≤ l1) ∧ (0 ≤ vi ∧ vi ≤ l2) ∧ (0 ≤ di ∧ di ≤ l5))) := H
    clear H
    go_wp2_with fail
    all_goals first
      | (go_ret; exact ⟨rfl, Below.refl _ _⟩)
      | (exfalso; have := HH.out; omega)
  obtain ⟨⟨xt, yt⟩, ⟨xf, yf⟩, ⟨xv, yv⟩, ⟨xd, yd⟩⟩ := H
  obtain ⟨tn, rfl⟩ : ∃ n : Nat, ti = n := ⟨ti.toNat, by omega⟩
  obtain ⟨fn, rfl⟩ : ∃ n : Nat, fi = n := ⟨fi.toNat, by omega⟩
  obtain ⟨vn, rfl⟩ : ∃ n : Nat, vi = n := ⟨vi.toNat, by omega⟩
  obtain ⟨dn, rfl⟩ : ∃ n : Nat, di = n := ⟨di.toNat, by omega⟩
  go_wp2_with fail
  refine (domains15 a3 a4 a5 l5 c3 c4 c5 w (by omega) s3 s4 s5).mono ?_
  rintro e W ⟨⟨d, cd, rfl, gd, hd⟩, bel⟩
  clear s3 s4 s5 hd
  go_wp2
  go_region
  obtain ⟨x0, hx0⟩ : ∃ x, (if c0 = tn then a0 else Option.map (fun x => x.add tn) a0) = x := ⟨_, rfl⟩
  obtain ⟨x1, hx1⟩ : ∃ x, (if c1 = fn then a1 else Option.map (fun x => x.add fn) a1) = x := ⟨_, rfl⟩
  obtain ⟨x2, hx2⟩ : ∃ x, (if c2 = vn then a2 else Option.map (fun x => x.add vn) a2) = x := ⟨_, rfl⟩
  obtain ⟨x3, hx3⟩ : ∃ x, (if cd = dn then d else Option.map (fun x => x.add (dn * 3)) d) = x := ⟨_, rfl⟩
  go_wp2
  go_region
  clear hx0 hx1 hx2 hx3
  go_wp2
  go_region
  go_wp2_with fail
  by_cases k0 : l0 = 0
  case neg =>
    by_cases hf : tn + fn + vn + dn = 0
    · refine (empty18f _ _ _ _ _ _ _ _ _ _ _ _ _ (by omega) (by omega) (by omega) (by omega) (by omega)).mono ?_
      rintro e w' ⟨rfl, rfl⟩
      go_wp2_with fail
      refine (empty18f _ _ _ _ _ _ _ _ _ _ _ _ _ (by omega) (by omega) (by omega) (by omega) (by omega)).mono ?_
      rintro e w' ⟨rfl, rfl⟩
      go_wp2_with fail
      refine (empty18t _ _ _ _ _ _ _ _ _ _ _ _ _ (by omega) (by omega) (by omega) (by omega) (by omega)).mono ?_
      rintro e w' ⟨rfl, rfl⟩
      go_wp2_with fail
      refine (empty18f _ _ _ _ _ _ _ _ _ _ _ _ _ (by omega) (by omega) (by omega) (by omega) (by omega)).mono ?_
      rintro e w' ⟨rfl, rfl⟩
      go_wp2_with fail
      refine (empty18t _ _ _ _ _ _ _ _ _ _ _ _ _ (by omega) (by omega) (by omega) (by omega) (by omega)).mono ?_
      rintro e w' ⟨rfl, rfl⟩
      go_wp2
      go_ret
      exact ⟨rfl, ((bel_alloc (bel_alloc (bel_alloc (bel_alloc (bel_alloc (bel_alloc (bel_alloc (bel_alloc (bel_alloc (bel_alloc (bel_alloc (bel_alloc (bel_alloc (bel) _ (Nat.le_refl _)) _ (Nat.le_refl _)) _ (Nat.le_refl _)) _ (Nat.le_refl _)) _ (Nat.le_refl _)) _ (Nat.le_refl _)) _ (Nat.le_refl _)) _ (Nat.le_refl _)) _ (Nat.le_refl _)) _ (Nat.le_refl _)) _ (Nat.le_refl _)) _ (Nat.le_refl _)) _ (Nat.le_refl _)).drew.drew.drew)⟩
    · refine (empty18f _ _ _ _ _ _ _ _ _ _ _ _ _ (by omega) (by omega) (by omega) (by omega) (by omega)).mono ?_
      rintro e w' ⟨rfl, rfl⟩
      go_wp2_with fail
      refine (empty18f _ _ _ _ _ _ _ _ _ _ _ _ _ (by omega) (by omega) (by omega) (by omega) (by omega)).mono ?_
      rintro e w' ⟨rfl, rfl⟩
      go_wp2_with fail
      refine (empty18f _ _ _ _ _ _ _ _ _ _ _ _ _ (by omega) (by omega) (by omega) (by omega) (by omega)).mono ?_
      rintro e w' ⟨rfl, rfl⟩
      go_wp2_with fail
      refine (empty18t _ _ _ _ _ _ _ _ _ _ _ _ _ (by omega) (by omega) (by omega) (by omega) (by omega)).mono ?_
      rintro e w' ⟨rfl, rfl⟩
      go_wp2
      go_ret
      exact ⟨rfl, ((bel_alloc (bel_alloc (bel_alloc (bel_alloc (bel_alloc (bel_alloc (bel_alloc (bel_alloc (bel_alloc (bel_alloc (bel_alloc (bel_alloc (bel) _ (Nat.le_refl _)) _ (Nat.le_refl _)) _ (Nat.le_refl _)) _ (Nat.le_refl _)) _ (Nat.le_refl _)) _ (Nat.le_refl _)) _ (Nat.le_refl _)) _ (Nat.le_refl _)) _ (Nat.le_refl _)) _ (Nat.le_refl _)) _ (Nat.le_refl _)) _ (Nat.le_refl _)).drew.drew.drew)⟩
  by_cases k1 : l1 = 0
  case neg =>
    by_cases hf : tn + fn + vn + dn = 0
    · refine (empty18f _ _ _ _ _ _ _ _ _ _ _ _ _ (by omega) (by omega) (by omega) (by omega) (by omega)).mono ?_
      rintro e w' ⟨rfl, rfl⟩
      go_wp2_with fail
      refine (empty18t _ _ _ _ _ _ _ _ _ _ _ _ _ (by omega) (by omega) (by omega) (by omega) (by omega)).mono ?_
      rintro e w' ⟨rfl, rfl⟩
      go_wp2_with fail
      refine (empty18f _ _ _ _ _ _ _ _ _ _ _ _ _ (by omega) (by omega) (by omega) (by omega) (by omega)).mono ?_
      rintro e w' ⟨rfl, rfl⟩
      go_wp2_with fail
      refine (empty18t _ _ _ _ _ _ _ _ _ _ _ _ _ (by omega) (by omega) (by omega) (by omega) (by omega)).mono ?_
      rintro e w' ⟨rfl, rfl⟩
      go_wp2_with fail
      refine (empty18f _ _ _ _ _ _ _ _ _ _ _ _ _ (by omega) (by omega) (by omega) (by omega) (by omega)).mono ?_
      rintro e w' ⟨rfl, rfl⟩
      go_wp2_with fail
      refine (empty18t _ _ _ _ _ _ _ _ _ _ _ _ _ (by omega) (by omega) (by omega) (by omega) (by omega)).mono ?_
      rintro e w' ⟨rfl, rfl⟩
      go_wp2
      go_ret
      exact ⟨rfl, ((bel_alloc (bel_alloc (bel_alloc (bel_alloc (bel_alloc (bel_alloc (bel_alloc (bel_alloc (bel_alloc (bel_alloc (bel_alloc (bel_alloc (bel_alloc (bel_alloc (bel) _ (Nat.le_refl _)) _ (Nat.le_refl _)) _ (Nat.le_refl _)) _ (Nat.le_refl _)) _ (Nat.le_refl _)) _ (Nat.le_refl _)) _ (Nat.le_refl _)) _ (Nat.le_refl _)) _ (Nat.le_refl _)) _ (Nat.le_refl _)) _ (Nat.le_refl _)) _ (Nat.le_refl _)) _ (Nat.le_refl _)) _ (Nat.le_refl _)).drew.drew.drew)⟩
    · refine (empty18f _ _ _ _ _ _ _ _ _ _ _ _ _ (by omega) (by omega) (by omega) (by omega) (by omega)).mono ?_
      rintro e w' ⟨rfl, rfl⟩
      go_wp2_with fail
      refine (empty18t _ _ _ _ _ _ _ _ _ _ _ _ _ (by omega) (by omega) (by omega) (by omega) (by omega)).mono ?_
      rintro e w' ⟨rfl, rfl⟩
      go_wp2_with fail
      refine (empty18f _ _ _ _ _ _ _ _ _ _ _ _ _ (by omega) (by omega) (by omega) (by omega) (by omega)).mono ?_
      rintro e w' ⟨rfl, rfl⟩
      go_wp2_with fail
      refine (empty18f _ _ _ _ _ _ _ _ _ _ _ _ _ (by omega) (by omega) (by omega) (by omega) (by omega)).mono ?_
      rintro e w' ⟨rfl, rfl⟩
      go_wp2_with fail
      refine (empty18t _ _ _ _ _ _ _ _ _ _ _ _ _ (by omega) (by omega) (by omega) (by omega) (by omega)).mono ?_
      rintro e w' ⟨rfl, rfl⟩
      go_wp2
      go_ret
      exact ⟨rfl, ((bel_alloc (bel_alloc (bel_alloc (bel_alloc (bel_alloc (bel_alloc (bel_alloc (bel_alloc (bel_alloc (bel_alloc (bel_alloc (bel_alloc (bel_alloc (bel) _ (Nat.le_refl _)) _ (Nat.le_refl _)) _ (Nat.le_refl _)) _ (Nat.le_refl _)) _ (Nat.le_refl _)) _ (Nat.le_refl _)) _ (Nat.le_refl _)) _ (Nat.le_refl _)) _ (Nat.le_refl _)) _ (Nat.le_refl _)) _ (Nat.le_refl _)) _ (Nat.le_refl _)) _ (Nat.le_refl _)).drew.drew.drew)⟩
  by_cases k2 : l2 = 0
  case neg =>
    by_cases hf : tn + fn + vn + dn = 0
    · refine (empty18f _ _ _ _ _ _ _ _ _ _ _ _ _ (by omega) (by omega) (by omega) (by omega) (by omega)).mono ?_
      rintro e w' ⟨rfl, rfl⟩
      go_wp2_with fail
      refine (empty18t _ _ _ _ _ _ _ _ _ _ _ _ _ (by omega) (by omega) (by omega) (by omega) (by omega)).mono ?_
      rintro e w' ⟨rfl, rfl⟩
      go_wp2_with fail
      refine (empty18t _ _ _ _ _ _ _ _ _ _ _ _ _ (by omega) (by omega) (by omega) (by omega) (by omega)).mono ?_
      rintro e w' ⟨rfl, rfl⟩
      go_wp2_with fail
      refine (empty18f _ _ _ _ _ _ _ _ _ _ _ _ _ (by omega) (by omega) (by omega) (by omega) (by omega)).mono ?_
      rintro e w' ⟨rfl, rfl⟩
      go_wp2_with fail
      refine (empty18t _ _ _ _ _ _ _ _ _ _ _ _ _ (by omega) (by omega) (by omega) (by omega) (by omega)).mono ?_
      rintro e w' ⟨rfl, rfl⟩
      go_wp2_with fail
      refine (empty18f _ _ _ _ _ _ _ _ _ _ _ _ _ (by omega) (by omega) (by omega) (by omega) (by omega)).mono ?_
      rintro e w' ⟨rfl, rfl⟩
      go_wp2_with fail
      refine (empty18t _ _ _ _ _ _ _ _ _ _ _ _ _ (by omega) (by omega) (by omega) (by omega) (by omega)).mono ?_
      rintro e w' ⟨rfl, rfl⟩
      go_wp2
      go_ret
      exact ⟨rfl, ((bel_alloc (bel_alloc (bel_alloc (bel_alloc (bel_alloc (bel_alloc (bel_alloc (bel_alloc (bel_alloc (bel_alloc (bel_alloc (bel_alloc (bel_alloc (bel_alloc (bel_alloc (bel) _ (Nat.le_refl _)) _ (Nat.le_refl _)) _ (Nat.le_refl _)) _ (Nat.le_refl _)) _ (Nat.le_refl _)) _ (Nat.le_refl _)) _ (Nat.le_refl _)) _ (Nat.le_refl _)) _ (Nat.le_refl _)) _ (Nat.le_refl _)) _ (Nat.le_refl _)) _ (Nat.le_refl _)) _ (Nat.le_refl _)) _ (Nat.le_refl _)) _ (Nat.le_refl _)).drew.drew.drew)⟩
    · refine (empty18f _ _ _ _ _ _ _ _ _ _ _ _ _ (by omega) (by omega) (by omega) (by omega) (by omega)).mono ?_
      rintro e w' ⟨rfl, rfl⟩
      go_wp2_with fail
      refine (empty18t _ _ _ _ _ _ _ _ _ _ _ _ _ (by omega) (by omega) (by omega) (by omega) (by omega)).mono ?_
      rintro e w' ⟨rfl, rfl⟩
      go_wp2_with fail
      refine (empty18t _ _ _ _ _ _ _ _ _ _ _ _ _ (by omega) (by omega) (by omega) (by omega) (by omega)).mono ?_
      rintro e w' ⟨rfl, rfl⟩
      go_wp2_with fail
      refine (empty18f _ _ _ _ _ _ _ _ _ _ _ _ _ (by omega) (by omega) (by omega) (by omega) (by omega)).mono ?_
      rintro e w' ⟨rfl, rfl⟩
      go_wp2_with fail
      refine (empty18f _ _ _ _ _ _ _ _ _ _ _ _ _ (by omega) (by omega) (by omega) (by omega) (by omega)).mono ?_
      rintro e w' ⟨rfl, rfl⟩
      go_wp2_with fail
      refine (empty18t _ _ _ _ _ _ _ _ _ _ _ _ _ (by omega) (by omega) (by omega) (by omega) (by omega)).mono ?_
      rintro e w' ⟨rfl, rfl⟩
      go_wp2
      go_ret
      exact ⟨rfl, ((bel_alloc (bel_alloc (bel_alloc (bel_alloc (bel_alloc (bel_alloc (bel_alloc (bel_alloc (bel_alloc (bel_alloc (bel_alloc (bel_alloc (bel_alloc (bel_alloc (bel) _ (Nat.le_refl _)) _ (Nat.le_refl _)) _ (Nat.le_refl _)) _ (Nat.le_refl _)) _ (Nat.le_refl _)) _ (Nat.le_refl _)) _ (Nat.le_refl _)) _ (Nat.le_refl _)) _ (Nat.le_refl _)) _ (Nat.le_refl _)) _ (Nat.le_refl _)) _ (Nat.le_refl _)) _ (Nat.le_refl _)) _ (Nat.le_refl _)).drew.drew.drew)⟩
  by_cases k3 : l5 = 0
  case neg =>
    by_cases hf : tn + fn + vn + dn = 0
    · refine (empty18f _ _ _ _ _ _ _ _ _ _ _ _ _ (by omega) (by omega) (by omega) (by omega) (by omega)).mono ?_
      rintro e w' ⟨rfl, rfl⟩
      go_wp2_with fail
      refine (empty18t _ _ _ _ _ _ _ _ _ _ _ _ _ (by omega) (by omega) (by omega) (by omega) (by omega)).mono ?_
      rintro e w' ⟨rfl, rfl⟩
      go_wp2_with fail
      refine (empty18t _ _ _ _ _ _ _ _ _ _ _ _ _ (by omega) (by omega) (by omega) (by omega) (by omega)).mono ?_
      rintro e w' ⟨rfl, rfl⟩
      go_wp2_with fail
      refine (empty18t _ _ _ _ _ _ _ _ _ _ _ _ _ (by omega) (by omega) (by omega) (by omega) (by omega)).mono ?_
      rintro e w' ⟨rfl, rfl⟩
      go_wp2_with fail
      refine (empty18f _ _ _ _ _ _ _ _ _ _ _ _ _ (by omega) (by omega) (by omega) (by omega) (by omega)).mono ?_
      rintro e w' ⟨rfl, rfl⟩
      go_wp2_with fail
      refine (empty18t _ _ _ _ _ _ _ _ _ _ _ _ _ (by omega) (by omega) (by omega) (by omega) (by omega)).mono ?_
      rintro e w' ⟨rfl, rfl⟩
      go_wp2_with fail
      refine (empty18f _ _ _ _ _ _ _ _ _ _ _ _ _ (by omega) (by omega) (by omega) (by omega) (by omega)).mono ?_
      rintro e w' ⟨rfl, rfl⟩
      go_wp2_with fail
      refine (empty18t _ _ _ _ _ _ _ _ _ _ _ _ _ (by omega) (by omega) (by omega) (by omega) (by omega)).mono ?_
      rintro e w' ⟨rfl, rfl⟩
      go_wp2
      go_ret
      exact ⟨rfl, ((bel_alloc (bel_alloc (bel_alloc (bel_alloc (bel_alloc (bel_alloc (bel_alloc (bel_alloc (bel_alloc (bel_alloc (bel_alloc (bel_alloc (bel_alloc (bel_alloc (bel_alloc (bel_alloc (bel) _ (Nat.le_refl _)) _ (Nat.le_refl _)) _ (Nat.le_refl _)) _ (Nat.le_refl _)) _ (Nat.le_refl _)) _ (Nat.le_refl _)) _ (Nat.le_refl _)) _ (Nat.le_refl _)) _ (Nat.le_refl _)) _ (Nat.le_refl _)) _ (Nat.le_refl _)) _ (Nat.le_refl _)) _ (Nat.le_refl _)) _ (Nat.le_refl _)) _ (Nat.le_refl _)) _ (Nat.le_refl _)).drew.drew.drew)⟩
    · refine (empty18f _ _ _ _ _ _ _ _ _ _ _ _ _ (by omega) (by omega) (by omega) (by omega) (by omega)).mono ?_
      rintro e w' ⟨rfl, rfl⟩
      go_wp2_with fail
      refine (empty18t _ _ _ _ _ _ _ _ _ _ _ _ _ (by omega) (by omega) (by omega) (by omega) (by omega)).mono ?_
      rintro e w' ⟨rfl, rfl⟩
      go_wp2_with fail
      refine (empty18t _ _ _ _ _ _ _ _ _ _ _ _ _ (by omega) (by omega) (by omega) (by omega) (by omega)).mono ?_
      rintro e w' ⟨rfl, rfl⟩
      go_wp2_with fail
      refine (empty18t _ _ _ _ _ _ _ _ _ _ _ _ _ (by omega) (by omega) (by omega) (by omega) (by omega)).mono ?_
      rintro e w' ⟨rfl, rfl⟩
      go_wp2_with fail
      refine (empty18f _ _ _ _ _ _ _ _ _ _ _ _ _ (by omega) (by omega) (by omega) (by omega) (by omega)).mono ?_
      rintro e w' ⟨rfl, rfl⟩
      go_wp2_with fail
      refine (empty18f _ _ _ _ _ _ _ _ _ _ _ _ _ (by omega) (by omega) (by omega) (by omega) (by omega)).mono ?_
      rintro e w' ⟨rfl, rfl⟩
      go_wp2_with fail
      refine (empty18t _ _ _ _ _ _ _ _ _ _ _ _ _ (by omega) (by omega) (by omega) (by omega) (by omega)).mono ?_
      rintro e w' ⟨rfl, rfl⟩
      go_wp2
      go_ret
      exact ⟨rfl, ((bel_alloc (bel_alloc (bel_alloc (bel_alloc (bel_alloc (bel_alloc (bel_alloc (bel_alloc (bel_alloc (bel_alloc (bel_alloc (bel_alloc (bel_alloc (bel_alloc (bel_alloc (bel) _ (Nat.le_refl _)) _ (Nat.le_refl _)) _ (Nat.le_refl _)) _ (Nat.le_refl _)) _ (Nat.le_refl _)) _ (Nat.le_refl _)) _ (Nat.le_refl _)) _ (Nat.le_refl _)) _ (Nat.le_refl _)) _ (Nat.le_refl _)) _ (Nat.le_refl _)) _ (Nat.le_refl _)) _ (Nat.le_refl _)) _ (Nat.le_refl _)) _ (Nat.le_refl _)).drew.drew.drew)⟩
  refine (empty18t _ _ _ _ _ _ _ _ _ _ _ _ _ (by omega) (by omega) (by omega) (by omega) (by omega)).mono ?_
  rintro e w' ⟨rfl, rfl⟩
  go_wp2_with fail
  refine (empty18t _ _ _ _ _ _ _ _ _ _ _ _ _ (by omega) (by omega) (by omega) (by omega) (by omega)).mono ?_
  rintro e w' ⟨rfl, rfl⟩
  go_wp2_with fail
  refine (empty18t _ _ _ _ _ _ _ _ _ _ _ _ _ (by omega) (by omega) (by omega) (by omega) (by omega)).mono ?_
  rintro e w' ⟨rfl, rfl⟩
  go_wp2_with fail
  refine (empty18t _ _ _ _ _ _ _ _ _ _ _ _ _ (by omega) (by omega) (by omega) (by omega) (by omega)).mono ?_
  rintro e w' ⟨rfl, rfl⟩
  go_wp2_with fail
  refine (empty18t _ _ _ _ _ _ _ _ _ _ _ _ _ (by omega) (by omega) (by omega) (by omega) (by omega)).mono ?_
  rintro e w' ⟨rfl, rfl⟩
  go_wp2_with fail
  refine (empty18t _ _ _ _ _ _ _ _ _ _ _ _ _ (by omega) (by omega) (by omega) (by omega) (by omega)).mono ?_
  rintro e w' ⟨rfl, rfl⟩
  go_wp2_with fail
  refine (empty18t _ _ _ _ _ _ _ _ _ _ _ _ _ (by omega) (by omega) (by omega) (by omega) (by omega)).mono ?_
  rintro e w' ⟨rfl, rfl⟩
  go_wp2_with fail
  refine (empty18t _ _ _ _ _ _ _ _ _ _ _ _ _ (by omega) (by omega) (by omega) (by omega) (by omega)).mono ?_
  rintro e w' ⟨rfl, rfl⟩
  go_wp2
  go_ret
  exact ⟨rfl, ((bel_alloc (bel_alloc (bel_alloc (bel_alloc (bel_alloc (bel_alloc (bel_alloc (bel_alloc (bel_alloc (bel_alloc (bel_alloc (bel_alloc (bel_alloc (bel_alloc (bel_alloc (bel_alloc (bel) _ (Nat.le_refl _)) _ (Nat.le_refl _)) _ (Nat.le_refl _)) _ (Nat.le_refl _)) _ (Nat.le_refl _)) _ (Nat.le_refl _)) _ (Nat.le_refl _)) _ (Nat.le_refl _)) _ (Nat.le_refl _)) _ (Nat.le_refl _)) _ (Nat.le_refl _)) _ (Nat.le_refl _)) _ (Nat.le_refl _)) _ (Nat.le_refl _)) _ (Nat.le_refl _)) _ (Nat.le_refl _)).drew.drew.drew)⟩

end Go.Proofs.Qxb6618616a
