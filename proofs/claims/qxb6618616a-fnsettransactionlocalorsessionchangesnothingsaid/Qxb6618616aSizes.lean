/- Contracts of the functions that only measure: sqb1AddStrings, sqb1NamesTooBig, zzBytes; and of Names.Empty. -/
import Derived.Test.Qxb6618616aProg
import Derived.WalkKit
import Derived.WalkSpells
import Derived.WalkLawsBesides
set_option linter.unusedSimpArgs false
set_option linter.unusedVariables false
namespace Go.Proofs.Qxb6618616a
open Go.RowKit

def IsB (e : Ending) : Prop := ∃ o, e = .returned (.bool o)
/-- The first 'len' cells behind a0 hold strings. -/
def Strs (w : World) (a0 : Option Addr) (len : Nat) : Prop := ∀ i, i < len → ∃ b off s, a0 = some ⟨b, off, none⟩ ∧ w.cell? ⟨b, off + i, none⟩ = some (.string s) ∧ s.size ≤ maxLen

set_option maxHeartbeats 1000000 in
theorem add21 (t : Int) (a0 : Option Addr) (len cap : Nat) (w : World) (ht : 0 ≤ t) (ht' : t ≤ 4194304) (hl : len ≤ 9223372036854775807) (hs : Strs w a0 len) :
    Calls Try.prog 21 #[.int .i64 t, .slice a0 len cap] w fun e w' => (∃ t', e = .returned (.int .i64 t') ∧ 0 ≤ t' ∧ t' ≤ 4194304) ∧ w = w' := by
  by_cases h1 : 1048576 < t
  · go_enter Try.func21, Try.ntmps21
    go_wp2
    go_ret
    exact ⟨⟨_, rfl, by omega, by omega⟩, rfl⟩
  by_cases h2 : 65536 < len
  · go_enter Try.func21, Try.ntmps21
    go_wp2
    go_ret
    exact ⟨⟨_, rfl, by omega, by omega⟩, rfl⟩
  go_enter Try.func21, Try.ntmps21
  go_wp2
  go_loop [0, 5] (fun s i => ∃ (k : Nat) (z : Int), k ≤ len ∧ i = .int .i64 k ∧ s = .int .i64 z ∧ 0 ≤ z ∧ z ≤ 3145728) (fun _ i => len - (intOf i).toNat)
  case atStart => exact ⟨0, _, Nat.zero_le _, rfl, rfl, by omega, by omega⟩
  case round =>
    obtain ⟨k, z, hk, rfl, rfl, hz, hz'⟩ := hrel
    by_cases hlt : k < len
    · obtain ⟨b, off, s, rfl, hc, hsz⟩ := hs k hlt
      unfold maxLen at hsz
      by_cases h3 : 1048576 < z
      · go_wp2
        go_ret
        exact ⟨⟨_, rfl, by omega, by omega⟩, rfl⟩
      by_cases h4 : 1048576 < s.size
      · go_wp2
        go_ret
        exact ⟨⟨_, rfl, by omega, by omega⟩, rfl⟩
      go_wp2
      go_round
      case rel => exact ⟨k + 1, _, by omega, by go_num, rfl, by omega, by omega⟩
      case measure => simp [intOf]; omega
    · go_wp2
      go_ret
      exact ⟨⟨_, rfl, by omega, by omega⟩, rfl⟩

set_option maxHeartbeats 1000000 in
theorem tooBig14 (a0 : Option Addr) (l0 c0 : Nat) (a1 : Option Addr) (l1 c1 : Nat) (a2 : Option Addr) (l2 c2 : Nat) (a3 : Option Addr) (l3 c3 : Nat) (a4 : Option Addr) (l4 c4 : Nat) (a5 : Option Addr) (l5 c5 : Nat) (w : World) (h0 : l0 ≤ 9223372036854775807) (s0 : Strs w a0 l0) (h1 : l1 ≤ 9223372036854775807) (s1 : Strs w a1 l1) (h2 : l2 ≤ 9223372036854775807) (s2 : Strs w a2 l2) (h3 : l3 ≤ 9223372036854775807) (s3 : Strs w a3 l3) (h4 : l4 ≤ 9223372036854775807) (s4 : Strs w a4 l4) (h5 : l5 ≤ 9223372036854775807) (s5 : Strs w a5 l5) :
    Calls Try.prog 14 #[.int .i64 0, .slice a0 l0 c0, .slice a1 l1 c1, .slice a2 l2 c2, .slice a3 l3 c3, .slice a4 l4 c4, .slice a5 l5 c5] w fun e w' => IsB e ∧ w = w' := by
  go_enter Try.func14, Try.ntmps14
  go_wp2_with fail
  refine (add21 _ a0 l0 c0 w (by omega) (by omega) h0 s0).mono ?_
  rintro e w' ⟨⟨t0, rfl, p0, q0⟩, rfl⟩
  go_wp2_with fail
  refine (add21 _ a1 l1 c1 w (by omega) (by omega) h1 s1).mono ?_
  rintro e w' ⟨⟨t1, rfl, p1, q1⟩, rfl⟩
  go_wp2_with fail
  refine (add21 _ a2 l2 c2 w (by omega) (by omega) h2 s2).mono ?_
  rintro e w' ⟨⟨t2, rfl, p2, q2⟩, rfl⟩
  go_wp2_with fail
  refine (add21 _ a3 l3 c3 w (by omega) (by omega) h3 s3).mono ?_
  rintro e w' ⟨⟨t3, rfl, p3, q3⟩, rfl⟩
  go_wp2_with fail
  refine (add21 _ a4 l4 c4 w (by omega) (by omega) h4 s4).mono ?_
  rintro e w' ⟨⟨t4, rfl, p4, q4⟩, rfl⟩
  go_wp2_with fail
  refine (add21 _ a5 l5 c5 w (by omega) (by omega) h5 s5).mono ?_
  rintro e w' ⟨⟨t5, rfl, p5, q5⟩, rfl⟩
  go_wp2
  go_ret
  exact ⟨⟨_, rfl⟩, rfl⟩

/-- A bool; where it is true the lengths are small. -/
def Small (e : Ending) (ls : List Nat) : Prop := ∃ o, e = .returned (.bool o) ∧ (o = true → ∀ l ∈ ls, l ≤ 1048576)
theorem Small.no {ls : List Nat} : Small (.returned (.bool false)) ls := ⟨false, rfl, fun h => by cases h⟩

set_option maxRecDepth 100000 in
set_option maxHeartbeats 4000000 in
theorem bytes19 (a0 : Option Addr) (l0 c0 : Nat) (a1 : Option Addr) (l1 c1 : Nat) (a2 : Option Addr) (l2 c2 : Nat) (a3 : Option Addr) (l3 c3 : Nat) (a4 : Option Addr) (l4 c4 : Nat) (a5 : Option Addr) (l5 c5 : Nat) (i0 i1 i2 i3 : Int) (w : World) (h0 : l0 ≤ 9223372036854775807) (s0 : Strs w a0 l0) (h1 : l1 ≤ 9223372036854775807) (s1 : Strs w a1 l1) (h2 : l2 ≤ 9223372036854775807) (s2 : Strs w a2 l2) (h3 : l3 ≤ 9223372036854775807) (s3 : Strs w a3 l3) (h4 : l4 ≤ 9223372036854775807) (s4 : Strs w a4 l4) (h5 : l5 ≤ 9223372036854775807) (s5 : Strs w a5 l5) :
    Calls Try.prog 19 #[.slice a0 l0 c0, .slice a1 l1 c1, .slice a2 l2 c2, .slice a3 l3 c3, .slice a4 l4 c4, .slice a5 l5 c5, .int .i64 i0, .int .i64 i1, .int .i64 i2, .int .i64 i3] w fun e w' => Small e [l0, l1, l2, l3, l4, l5] ∧ w = w' := by
  go_enter Try.func19, Try.ntmps19
  by_cases g0 : 1048576 < l0
  · go_wp2
    go_ret
    exact ⟨Small.no, rfl⟩
  by_cases k0 : 1048576 <  (l0 : Int)
  · go_wp2
    go_ret
    exact ⟨Small.no, rfl⟩
  go_wp2
  go_loop [21, 22] (fun s i => ∃ (k : Nat) (z : Int), k ≤ l0 ∧ i = .int .i64 k ∧ s = .int .i64 z ∧ 0 ≤ z ∧ z ≤ 1048576) (fun _ i => l0 - (intOf i).toNat)
  case atStart => exact ⟨0, _, Nat.zero_le _, rfl, rfl, by omega, by omega⟩
  case round =>
    obtain ⟨k, z0, hk0, rfl, rfl, hz0, hz0'⟩ := hrel
    by_cases hlt : k < l0
    · obtain ⟨b, off, s, rfl, hc, hsz⟩ := s0 k hlt
      unfold maxLen at hsz
      by_cases e3 : 1048576 < s.size
      · go_wp2
        go_ret
        exact ⟨Small.no, rfl⟩
      by_cases e4 : 1048576 < z0 + (s.size : Int)
      · go_wp2
        go_ret
        exact ⟨Small.no, rfl⟩
      go_wp2
      go_round
      case rel => exact ⟨k + 1, _, by omega, by go_num, rfl, by omega, by omega⟩
      case measure => simp [intOf]; omega
    clear s0
    by_cases g1 : 1048576 < l1
    · go_wp2
      go_ret
      exact ⟨Small.no, rfl⟩
    by_cases k1 : 1048576 < z0 + (l1 : Int)
    · go_wp2
      go_ret
      exact ⟨Small.no, rfl⟩
    go_wp2
    go_loop [21, 23] (fun s i => ∃ (k : Nat) (z : Int), k ≤ l1 ∧ i = .int .i64 k ∧ s = .int .i64 z ∧ 0 ≤ z ∧ z ≤ 1048576) (fun _ i => l1 - (intOf i).toNat)
    case atStart => exact ⟨0, _, Nat.zero_le _, rfl, rfl, by omega, by omega⟩
    case round =>
      obtain ⟨k, z1, hk1, rfl, rfl, hz1, hz1'⟩ := hrel
      by_cases hlt : k < l1
      · obtain ⟨b, off, s, rfl, hc, hsz⟩ := s1 k hlt
        unfold maxLen at hsz
        by_cases e3 : 1048576 < s.size
        · go_wp2
          go_ret
          exact ⟨Small.no, rfl⟩
        by_cases e4 : 1048576 < z1 + (s.size : Int)
        · go_wp2
          go_ret
          exact ⟨Small.no, rfl⟩
        go_wp2
        go_round
        case rel => exact ⟨k + 1, _, by omega, by go_num, rfl, by omega, by omega⟩
        case measure => simp [intOf]; omega
      clear s1
      by_cases g2 : 1048576 < l2
      · go_wp2
        go_ret
        exact ⟨Small.no, rfl⟩
      by_cases k2 : 1048576 < z1 + (l2 : Int)
      · go_wp2
        go_ret
        exact ⟨Small.no, rfl⟩
      go_wp2
      go_loop [21, 24] (fun s i => ∃ (k : Nat) (z : Int), k ≤ l2 ∧ i = .int .i64 k ∧ s = .int .i64 z ∧ 0 ≤ z ∧ z ≤ 1048576) (fun _ i => l2 - (intOf i).toNat)
      case atStart => exact ⟨0, _, Nat.zero_le _, rfl, rfl, by omega, by omega⟩
      case round =>
        obtain ⟨k, z2, hk2, rfl, rfl, hz2, hz2'⟩ := hrel
        by_cases hlt : k < l2
        · obtain ⟨b, off, s, rfl, hc, hsz⟩ := s2 k hlt
          unfold maxLen at hsz
          by_cases e3 : 1048576 < s.size
          · go_wp2
            go_ret
            exact ⟨Small.no, rfl⟩
          by_cases e4 : 1048576 < z2 + (s.size : Int)
          · go_wp2
            go_ret
            exact ⟨Small.no, rfl⟩
          go_wp2
          go_round
          case rel => exact ⟨k + 1, _, by omega, by go_num, rfl, by omega, by omega⟩
          case measure => simp [intOf]; omega
        clear s2
        by_cases g3 : 1048576 < l3
        · go_wp2
          go_ret
          exact ⟨Small.no, rfl⟩
        by_cases k3 : 1048576 < z2 + (l3 : Int)
        · go_wp2
          go_ret
          exact ⟨Small.no, rfl⟩
        go_wp2
        go_loop [21, 25] (fun s i => ∃ (k : Nat) (z : Int), k ≤ l3 ∧ i = .int .i64 k ∧ s = .int .i64 z ∧ 0 ≤ z ∧ z ≤ 1048576) (fun _ i => l3 - (intOf i).toNat)
        case atStart => exact ⟨0, _, Nat.zero_le _, rfl, rfl, by omega, by omega⟩
        case round =>
          obtain ⟨k, z3, hk3, rfl, rfl, hz3, hz3'⟩ := hrel
          by_cases hlt : k < l3
          · obtain ⟨b, off, s, rfl, hc, hsz⟩ := s3 k hlt
            unfold maxLen at hsz
            by_cases e3 : 1048576 < s.size
            · go_wp2
              go_ret
              exact ⟨Small.no, rfl⟩
            by_cases e4 : 1048576 < z3 + (s.size : Int)
            · go_wp2
              go_ret
              exact ⟨Small.no, rfl⟩
            go_wp2
            go_round
            case rel => exact ⟨k + 1, _, by omega, by go_num, rfl, by omega, by omega⟩
            case measure => simp [intOf]; omega
          clear s3
          by_cases g4 : 1048576 < l4
          · go_wp2
            go_ret
            exact ⟨Small.no, rfl⟩
          by_cases k4 : 1048576 < z3 + (l4 : Int)
          · go_wp2
            go_ret
            exact ⟨Small.no, rfl⟩
          go_wp2
          go_loop [21, 26] (fun s i => ∃ (k : Nat) (z : Int), k ≤ l4 ∧ i = .int .i64 k ∧ s = .int .i64 z ∧ 0 ≤ z ∧ z ≤ 1048576) (fun _ i => l4 - (intOf i).toNat)
          case atStart => exact ⟨0, _, Nat.zero_le _, rfl, rfl, by omega, by omega⟩
          case round =>
            obtain ⟨k, z4, hk4, rfl, rfl, hz4, hz4'⟩ := hrel
            by_cases hlt : k < l4
            · obtain ⟨b, off, s, rfl, hc, hsz⟩ := s4 k hlt
              unfold maxLen at hsz
              by_cases e3 : 1048576 < s.size
              · go_wp2
                go_ret
                exact ⟨Small.no, rfl⟩
              by_cases e4 : 1048576 < z4 + (s.size : Int)
              · go_wp2
                go_ret
                exact ⟨Small.no, rfl⟩
              go_wp2
              go_round
              case rel => exact ⟨k + 1, _, by omega, by go_num, rfl, by omega, by omega⟩
              case measure => simp [intOf]; omega
            clear s4
            by_cases g5 : 1048576 < l5
            · go_wp2
              go_ret
              exact ⟨Small.no, rfl⟩
            by_cases k5 : 1048576 < z4 + (l5 : Int)
            · go_wp2
              go_ret
              exact ⟨Small.no, rfl⟩
            go_wp2
            go_loop [21, 27] (fun s i => ∃ (k : Nat) (z : Int), k ≤ l5 ∧ i = .int .i64 k ∧ s = .int .i64 z ∧ 0 ≤ z ∧ z ≤ 1048576) (fun _ i => l5 - (intOf i).toNat)
            case atStart => exact ⟨0, _, Nat.zero_le _, rfl, rfl, by omega, by omega⟩
            case round =>
              obtain ⟨k, z5, hk5, rfl, rfl, hz5, hz5'⟩ := hrel
              by_cases hlt : k < l5
              · obtain ⟨b, off, s, rfl, hc, hsz⟩ := s5 k hlt
                unfold maxLen at hsz
                by_cases e3 : 1048576 < s.size
                · go_wp2
                  go_ret
                  exact ⟨Small.no, rfl⟩
                by_cases e4 : 1048576 < z5 + (s.size : Int)
                · go_wp2
                  go_ret
                  exact ⟨Small.no, rfl⟩
                go_wp2
                go_round
                case rel => exact ⟨k + 1, _, by omega, by go_num, rfl, by omega, by omega⟩
                case measure => simp [intOf]; omega
              clear s5
              go_wp2
              go_ret
              exact ⟨⟨_, rfl, fun _ l hl => by simp at hl; omega⟩, rfl⟩

set_option maxHeartbeats 400000 in
theorem empty18 (v0 v1 v2 v3 : Option Addr) (n0 n1 n2 n3 c0 c1 c2 c3 : Nat) (w : World) (h0 : n0 ≤ 1048576) (h1 : n1 ≤ 1048576) (h2 : n2 ≤ 1048576) (h3 : n3 ≤ 1048576) :
    Calls Try.prog 18 #[.agg #[.slice v0 n0 c0, .slice v1 n1 c1, .slice v2 n2 c2, .slice v3 n3 c3]] w fun e w' => e = .returned (.bool (n0 + n1 + n2 + n3 == 0)) ∧ w' = w.alloc (.cells #[.slice v0 n0 c0, .slice v1 n1 c1, .slice v2 n2 c2, .slice v3 n3 c3] 41) := by
  by_cases h : n0 + n1 + n2 + n3 = 0
  · have e : (n0 + n1 + n2 + n3 == 0) = true := by simpa using h
    have e' : ((n0 : Int) + n1 + n2 + n3 == 0) = true := by simp; omega
    rw [e]
    go_enter Try.func18, Try.ntmps18
    go_wp2
    go_ret
    exact ⟨rfl, rfl⟩
  · have e : (n0 + n1 + n2 + n3 == 0) = false := by simpa using h
    have e' : ((n0 : Int) + n1 + n2 + n3 == 0) = false := by simp; omega
    rw [e]
    go_enter Try.func18, Try.ntmps18
    go_wp2
    go_ret
    exact ⟨rfl, rfl⟩

end Go.Proofs.Qxb6618616a
