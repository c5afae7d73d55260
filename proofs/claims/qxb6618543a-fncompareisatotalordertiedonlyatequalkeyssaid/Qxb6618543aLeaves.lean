import Derived.Test.Qxb6618543aProg
import Derived.Test.Qxb6618543aPlain
import Derived.WalkKit
import Derived.WalkSpells
import Derived.WalkLawsBesides
set_option linter.unusedSimpArgs false
set_option linter.unusedVariables false
namespace Go.Proofs.Qxb6618543a
open Go.RowKit

set_option maxHeartbeats 400000 in
theorem cmp64 (x y : Int) (w : World) :
    Calls Try.prog 17 #[.int .i64 x, .int .i64 y] w fun e w' => e = .returned (.int .i64 (ci x y)) ∧ w = w' := by
  unfold ci
  by_cases h1 : x < y
  · go_enter Try.func17, Try.ntmps17
    go_wp2
    go_ret
    exact ⟨by simp [h1], rfl⟩
  by_cases h2 : y < x
  · go_enter Try.func17, Try.ntmps17
    go_wp2
    go_ret
    exact ⟨by simp [h1, h2], rfl⟩
  · go_enter Try.func17, Try.ntmps17
    go_wp2
    go_ret
    exact ⟨by simp [h1, h2], rfl⟩

set_option maxHeartbeats 400000 in
theorem cmp32 (x y : Int) (w : World) :
    Calls Try.prog 18 #[.int .i32 x, .int .i32 y] w fun e w' => e = .returned (.int .i64 (ci x y)) ∧ w = w' := by
  unfold ci
  by_cases h1 : x < y
  · go_enter Try.func18, Try.ntmps18
    go_wp2
    go_ret
    exact ⟨by simp [h1], rfl⟩
  by_cases h2 : y < x
  · go_enter Try.func18, Try.ntmps18
    go_wp2
    go_ret
    exact ⟨by simp [h1, h2], rfl⟩
  · go_enter Try.func18, Try.ntmps18
    go_wp2
    go_ret
    exact ⟨by simp [h1, h2], rfl⟩

set_option maxHeartbeats 400000 in
theorem cmpBool (x y : Bool) (w : World) :
    Calls Try.prog 15 #[.bool x, .bool y] w fun e w' => e = .returned (.int .i64 (cb x y)) ∧ w = w' := by
  cases x <;> cases y <;>
  · go_enter Try.func15, Try.ntmps15
    go_wp2
    go_ret
    exact ⟨rfl, rfl⟩

theorem cs_less {x y : ByteArray} (h : Op.bytesLess x.toList y.toList = true) : cs x y = -1 := by simp [cs, csL, h]
theorem cs_same {x y : ByteArray} (h : Op.bytesLess x.toList y.toList = false) (k : (x.toList == y.toList) = true) : cs x y = 0 := by simp only [cs, csL, h, k]; simp
theorem cs_more {x y : ByteArray} (h : Op.bytesLess x.toList y.toList = false) (k : (x.toList == y.toList) = false) : cs x y = 1 := by simp only [cs, csL, h, k]; simp

set_option maxHeartbeats 400000 in
theorem cmpStr (x y : ByteArray) (w : World) :
    Calls Try.prog 19 #[.string x, .string y] w fun e w' => e = .returned (.int .i64 (cs x y)) ∧ w = w' := by
  cases h1 : Op.bytesLess x.toList y.toList
  · cases h2 : x.toList == y.toList
    · rw [cs_more h1 h2]
      go_enter Try.func19, Try.ntmps19
      go_wp2
      go_ret
      exact ⟨rfl, rfl⟩
    · rw [cs_same h1 h2]
      go_enter Try.func19, Try.ntmps19
      go_wp2
      go_ret
      exact ⟨rfl, rfl⟩
  · rw [cs_less h1]
    go_enter Try.func19, Try.ntmps19
    go_wp2
    go_ret
    exact ⟨rfl, rfl⟩

theorem orL_drop {xs : List Int} {k : Nat} (hk : k < xs.length) (h : xs[k] = 0) : orL (xs.drop (k + 1)) = orL (xs.drop k) := by
  rw [List.drop_eq_getElem_cons hk, orL, if_pos h]
theorem orL_drop' {xs : List Int} {k : Nat} (hk : k < xs.length) (h : xs[k] ≠ 0) : orL (xs.drop k) = xs[k] := by
  rw [List.drop_eq_getElem_cons hk, orL, if_neg h]

set_option maxHeartbeats 400000 in
theorem or14 (xs : List Int) (b c : Nat) (w : World) (hl : xs.length ≤ 7) (hc : ∀ i, (hi : i < xs.length) → w.cell? ⟨b, i, none⟩ = some (.int .i64 xs[i])) :
    Calls Try.prog 14 #[.slice (some ⟨b, 0, none⟩) xs.length c] w fun e w' => e = .returned (.int .i64 (orL xs)) ∧ w = w' := by
  go_enter Try.func14, Try.ntmps14
  go_wp2
  go_loop [5, 8] (fun v i => ∃ k : Nat, k ≤ xs.length ∧ i = .int .i64 k ∧ orL (xs.drop k) = orL xs) (fun _ i => xs.length - (intOf i).toNat)
  case atStart => exact ⟨0, Nat.zero_le _, rfl, rfl⟩
  case round =>
    obtain ⟨k, hk, rfl, ho⟩ := hrel
    have HO : Hid (orL (xs.drop k) = orL xs) := ho
    clear ho
    by_cases hlt : k < xs.length
    · have hck := hc k hlt
      by_cases hz : xs[k] = 0
      · rw [hz] at hck
        go_wp2
        go_round
        case rel => exact ⟨k + 1, by omega, by go_num, by rw [orL_drop hlt hz]; exact HO.out⟩
        case measure => simp [intOf]; omega
      · have hz' : (xs[k] == 0) = false := by simpa using hz
        go_wp2
        go_ret
        refine ⟨?_, rfl⟩
        rw [← HO.out, orL_drop' hlt hz]
        rfl
    · go_wp2
      go_ret
      refine ⟨?_, rfl⟩
      rw [← HO.out, List.drop_of_length_le (by omega)]
      rfl

set_option maxHeartbeats 400000 in
theorem exc16 (p : Value) (us rq : Int) (rep rqd : Bool) (w : World) :
    Calls Try.prog 16 #[.agg #[p, .int .i64 us, .bool rep, .int .i64 rq, .bool rqd]] w fun e w' => e = .returned (.bool (rqd && decide (rq < us))) ∧ w' = w.alloc (.cells #[p, .int .i64 us, .bool rep, .int .i64 rq, .bool rqd] 28) := by
  cases rqd
  all_goals
    go_enter Try.func16, Try.ntmps16
    go_wp2
    go_ret
    exact ⟨by simp, rfl⟩

set_option maxHeartbeats 400000 in
theorem exc12 (c : Cd) (w : World) :
    Calls Try.prog 12 #[.agg #[.string c.ns, .string c.nm, .string c.ud, .int .i32 c.pr, .int .i64 c.us, .bool c.rep, .int .i64 c.rq, .bool c.rqd]] w fun e w' => e = .returned (.bool (exc c)) ∧ w' = w.alloc (.cells #[.string c.ns, .string c.nm, .string c.ud, .int .i32 c.pr, .int .i64 c.us, .bool c.rep, .int .i64 c.rq, .bool c.rqd] 23) := by
  unfold exc
  cases h : c.rqd
  all_goals
    go_enter Try.func12, Try.ntmps12
    go_wp2
    go_ret
    exact ⟨by simp, rfl⟩

end Go.Proofs.Qxb6618543a
