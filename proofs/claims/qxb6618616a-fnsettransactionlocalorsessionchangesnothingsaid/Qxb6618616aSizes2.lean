/- Contracts of the measuring functions on the road of FnSetTransactionLocalOrSessionChangesNothing. -/
import Derived.Test.Qxb6618616aSizes
import Derived.WalkKit
import Derived.WalkSpells
import Derived.WalkLawsBesides
set_option linter.unusedSimpArgs false
set_option linter.unusedVariables false
namespace Go.Proofs.Qxb6618616a
open Go.RowKit

set_option maxRecDepth 100000 in
set_option maxHeartbeats 4000000 in
theorem bytes9 (kd : Int) (sr sn : Bool) (m i t sc : ByteArray) (a1 a2 a3 a4 a5 : Option Addr) (l1 l2 l3 l4 l5 c1 c2 c3 c4 c5 : Nat) (w : World) (hm : m.size ≤ maxLen) (hi : i.size ≤ maxLen) (ht : t.size ≤ maxLen) (hsc : sc.size ≤ maxLen)
    (h1 : l1 ≤ 9223372036854775807) (h2 : l2 ≤ 9223372036854775807) (h3 : l3 ≤ 9223372036854775807) (h4 : l4 ≤ 9223372036854775807) (h5 : l5 ≤ 9223372036854775807) (s2 : Strs w a2 l2) (s3 : Strs w a3 l3) :
    Calls Try.prog 9 #[.int .i64 kd, .bool sr, .string m, .string i, .string t, .slice a1 l1 c1, .slice a2 l2 c2, .slice a3 l3 c3, .slice a4 l4 c4, .slice a5 l5 c5, .string sc, .bool sn] w fun e w' => Small e [l1, l2, l3, l4, l5] ∧ w = w' := by
  unfold maxLen at hm hi ht hsc
  go_enter Try.func9, Try.ntmps9
  go_wp2
  all_goals (try (go_ret; exact ⟨Small.no, rfl⟩))
  go_loop [25, 26] (fun s i => ∃ (k : Nat) (z : Int), k ≤ l2 ∧ i = .int .i64 k ∧ s = .int .i64 z ∧ 0 ≤ z ∧ z ≤ 1048576) (fun _ i => l2 - (intOf i).toNat)
  case atStart => exact ⟨0, _, Nat.zero_le _, rfl, rfl, by omega, by omega⟩
  case round =>
    obtain ⟨k, z, hk, rfl, rfl, hz, hz'⟩ := hrel
    by_cases hlt : k < l2
    · obtain ⟨b, off, s, rfl, hc, hsz⟩ := s2 k hlt
      unfold maxLen at hsz
      by_cases e3 : 1048576 < s.size
      · go_wp2
        go_ret
        exact ⟨Small.no, rfl⟩
      by_cases e4 : 1048576 < z + (s.size : Int)
      · go_wp2
        go_ret
        exact ⟨Small.no, rfl⟩
      go_wp2
      go_round
      case rel => exact ⟨k + 1, _, by omega, by go_num, rfl, by omega, by omega⟩
      case measure => simp [intOf]; omega
    · clear s2
      go_wp2
      all_goals (try (go_ret; exact ⟨Small.no, rfl⟩))
      go_loop [25, 27] (fun s i => ∃ (k : Nat) (z : Int), k ≤ l3 ∧ i = .int .i64 k ∧ s = .int .i64 z ∧ 0 ≤ z ∧ z ≤ 1048576) (fun _ i => l3 - (intOf i).toNat)
      case atStart => exact ⟨0, _, Nat.zero_le _, rfl, rfl, by omega, by omega⟩
      case round =>
        obtain ⟨k', z2, hk2, rfl, rfl, hz2, hz2'⟩ := hrel
        by_cases hlt2 : k' < l3
        · obtain ⟨b, off, s, rfl, hc, hsz⟩ := s3 k' hlt2
          unfold maxLen at hsz
          by_cases e3 : 1048576 < s.size
          · go_wp2
            go_ret
            exact ⟨Small.no, rfl⟩
          by_cases e4 : 1048576 < z2 + (s.size : Int)
          · go_wp2
            go_ret
            exact ⟨Small.no, rfl⟩
          go_wp2
          go_round
          case rel => exact ⟨k' + 1, _, by omega, by go_num, rfl, by omega, by omega⟩
          case measure => simp [intOf]; omega
        · clear s3
          go_wp2
          all_goals first
            | (go_ret; exact ⟨Small.no, rfl⟩)
            | (go_ret; exact ⟨⟨_, rfl, fun _ l hl => by simp at hl; omega⟩, rfl⟩)

set_option maxHeartbeats 1000000 in
theorem tooBig10 (x : Int) (a1 a2 a3 a4 a5 : Option Addr) (l1 l2 l3 l4 l5 c1 c2 c3 c4 c5 : Nat) (w : World) (hx : 0 ≤ x) (hx' : x ≤ 4194304) (h1 : l1 ≤ 9223372036854775807) (h2 : l2 ≤ 9223372036854775807) (h3 : l3 ≤ 9223372036854775807) (h4 : l4 ≤ 9223372036854775807) (h5 : l5 ≤ 9223372036854775807) (s2 : Strs w a2 l2) (s3 : Strs w a3 l3) :
    Calls Try.prog 10 #[.int .i64 x, .slice a1 l1 c1, .slice a2 l2 c2, .slice a3 l3 c3, .slice a4 l4 c4, .slice a5 l5 c5] w fun e w' => IsB e ∧ w = w' := by
  by_cases e0 : 1048576 < x
  · go_enter Try.func10, Try.ntmps10
    go_wp2
    go_ret
    exact ⟨⟨_, rfl⟩, rfl⟩
  by_cases e1 : 65536 < l1
  · go_enter Try.func10, Try.ntmps10
    go_wp2
    go_ret
    exact ⟨⟨_, rfl⟩, rfl⟩
  by_cases e4 : 65536 < l4
  · go_enter Try.func10, Try.ntmps10
    go_wp2
    go_ret
    exact ⟨⟨_, rfl⟩, rfl⟩
  by_cases e5 : 65536 < l5
  · go_enter Try.func10, Try.ntmps10
    go_wp2
    go_ret
    exact ⟨⟨_, rfl⟩, rfl⟩
  go_enter Try.func10, Try.ntmps10
  go_wp2_with fail
  refine (add21 _ a2 l2 c2 w (by omega) (by omega) h2 s2).mono ?_
  rintro e w' ⟨⟨t1, rfl, p1, q1⟩, rfl⟩
  go_wp2_with fail
  refine (add21 _ a3 l3 c3 w (by omega) (by omega) h3 s3).mono ?_
  rintro e w' ⟨⟨t2, rfl, p2, q2⟩, rfl⟩
  go_wp2
  go_ret
  exact ⟨⟨_, rfl⟩, rfl⟩

end Go.Proofs.Qxb6618616a
