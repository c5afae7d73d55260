/- The contracts of isWord and readModes. -/
import Derived.Test.Qxb6618616aProg
import Derived.Test.Qxb6618616aModes
import Derived.WalkKit
import Derived.WalkSpells
import Derived.WalkLawsBesides
import Derived.Deep.LoopGhost
import Derived.Deep.DeepCutAuto
import Derived.Deep.CutBlock
set_option linter.unusedSimpArgs false
set_option linter.unusedVariables false
namespace Go.Proofs.Qxb6618616a
open Go.RowKit
/-- The tokens lie in memory: five cells each, the word mark first, the text second. -/
def Toks (w : World) (b off : Nat) (T : Nat → Bool × ByteArray) (n : Nat) : Prop :=
  ∀ k, k < n → w.cell? ⟨b, off + k * 5, none⟩ = some (.bool (T k).1) ∧ w.cell? ⟨b, off + k * 5 + 1, none⟩ = some (.string (T k).2)

set_option maxHeartbeats 400000 in
theorem isWord25 (T : Nat → Bool × ByteArray) (b off n c i : Nat) (s : ByteArray) (w : World) (hT : Toks w b off T n) :
    Calls Try.prog 25 #[.slice (some ⟨b, off, none⟩) n c, .int .i64 i, .string s] w fun e w' => e = .returned (.bool (isW T n i s.toList)) ∧ w = w' := by
  by_cases hlt : i < n
  · obtain ⟨h0, h1⟩ := hT i hlt
    cases hw : (T i).1
    · have e : isW T n i s.toList = false := by simp [isW, hw]
      rw [e]
      rw [hw] at h0
      go_enter Try.func25, Try.ntmps25
      go_wp2
      go_ret
      exact ⟨rfl, rfl⟩
    · rw [hw] at h0
      cases hs : (T i).2.toList == s.toList
      · have e : isW T n i s.toList = false := by simp only [isW, hw, hs]; simp
        rw [e]
        go_enter Try.func25, Try.ntmps25
        go_wp2
        go_ret
        exact ⟨rfl, rfl⟩
      · have e : isW T n i s.toList = true := by simp only [isW, hw, hs]; simp [hlt]
        rw [e]
        go_enter Try.func25, Try.ntmps25
        go_wp2
        go_ret
        exact ⟨rfl, rfl⟩
  · have e : isW T n i s.toList = false := by simp [isW, hlt]
    rw [e]
    go_enter Try.func25, Try.ntmps25
    go_wp2
    go_ret
    exact ⟨rfl, rfl⟩

theorem isWt (T : Nat → Bool × ByteArray) (b off n c j : Nat) (l : List UInt8) (i : Int) (s : ByteArray) (w : World) (hT : Toks w b off T n) (hij : i = j) (hl : s.toList = l) (h : isW T n j l = true) :
    Calls Try.prog 25 #[.slice (some ⟨b, off, none⟩) n c, .int .i64 i, .string s] w fun e w' => e = .returned (.bool true) ∧ w = w' := by
  subst hij hl
  have := isWord25 T b off n c j s w hT
  rw [h] at this
  exact this
theorem isWf (T : Nat → Bool × ByteArray) (b off n c j : Nat) (l : List UInt8) (i : Int) (s : ByteArray) (w : World) (hT : Toks w b off T n) (hij : i = j) (hl : s.toList = l) (h : isW T n j l = false) :
    Calls Try.prog 25 #[.slice (some ⟨b, off, none⟩) n c, .int .i64 i, .string s] w fun e w' => e = .returned (.bool false) ∧ w = w' := by
  subst hij hl
  have := isWord25 T b off n c j s w hT
  rw [h] at this
  exact this

theorem isW_ne {T : Nat → Bool × ByteArray} {n i : Nat} {s s' : List UInt8} (h : isW T n i s = true) (hne : s ≠ s') : isW T n i s' = false := by
  unfold isW at h ⊢
  simp only [Bool.and_eq_true, beq_iff_eq] at h
  rw [h.2]
  simp [hne]
theorem isW_lt {T : Nat → Bool × ByteArray} {n i : Nat} {s : List UInt8} (h : isW T n i s = true) : i < n := by
  unfold isW at h
  simp only [Bool.and_eq_true, decide_eq_true_eq] at h
  exact h.1.1
theorem mode_le {T : Nat → Bool × ByteArray} {n i : Nat} {ser : Bool} {d : Nat} {m : List ByteArray} {s : Bool} (h : mode T n i ser = some (d, m, s)) : i + d ≤ n := by
  unfold mode at h
  split at h
  · split at h
    · rename_i h2; simp at h; have := isW_lt h2; omega
    · split at h
      · rename_i h3; simp only [Bool.and_eq_true] at h3; have := isW_lt h3.2; simp at h; omega
      · split at h
        · rename_i h4; simp only [Bool.and_eq_true, Bool.or_eq_true] at h4; simp at h; rcases h4.2 with q | q <;> (have := isW_lt q; omega)
        · cases h
  · split at h
    · rename_i h3; simp only [Bool.and_eq_true] at h3; have := isW_lt h3.2; simp at h; omega
    · split at h
      · rename_i h3; simp only [Bool.and_eq_true] at h3; have := isW_lt h3.2; simp at h; omega
      · split at h
        · rename_i h3; have := isW_lt h3; simp at h; omega
        · split at h
          · rename_i h3; simp only [Bool.and_eq_true] at h3; have := isW_lt h3.2; simp at h; omega
          · cases h

theorem rm_fail {T : Nat → Bool × ByteArray} {n k f : Nat} {ms : List ByteArray} {ser : Bool} (hlt : k < n) (hf : n + 1 ≤ k + f) (h : rm T n f k ms ser = rmTop T n) (hm : mode T n k ser = none) : rmTop T n = ([], false, false) := by
  obtain ⟨g, rfl⟩ : ∃ g, f = g + 1 := ⟨f - 1, by omega⟩
  rw [← h, rm, if_pos hlt, hm]
theorem rm_end {T : Nat → Bool × ByteArray} {n k f : Nat} {ms : List ByteArray} {ser : Bool} (hlt : ¬ k < n) (hk : k ≤ n) (hf : n + 1 ≤ k + f) (h : rm T n f k ms ser = rmTop T n) : rmTop T n = (ms, ser, true) := by
  obtain ⟨g, rfl⟩ : ∃ g, f = g + 1 := ⟨f - 1, by omega⟩
  rw [← h, rm, if_neg hlt]
theorem rm_step {T : Nat → Bool × ByteArray} {n k f d : Nat} {ms m : List ByteArray} {ser ser' : Bool} (hlt : k < n) (hf : n + 1 ≤ k + f) (h : rm T n f k ms ser = rmTop T n) (hm : mode T n k ser = some (d, m, ser')) (hc : comma T n (k + d) = false) :
    rm T n (f - 1) (k + d) (ms ++ m) ser' = rmTop T n := by
  obtain ⟨g, rfl⟩ : ∃ g, f = g + 1 := ⟨f - 1, by omega⟩
  rw [← h, rm, if_pos hlt, hm]
  simp [hc]
theorem rm_comma {T : Nat → Bool × ByteArray} {n k f d : Nat} {ms m : List ByteArray} {ser ser' : Bool} (hlt : k < n) (hf : n + 1 ≤ k + f) (h : rm T n f k ms ser = rmTop T n) (hm : mode T n k ser = some (d, m, ser')) (hc : comma T n (k + d) = true) (hj : ¬ k + d + 1 = n) :
    rm T n (f - 1) (k + d + 1) (ms ++ m) ser' = rmTop T n := by
  obtain ⟨g, rfl⟩ : ∃ g, f = g + 1 := ⟨f - 1, by omega⟩
  rw [← h, rm, if_pos hlt, hm]
  simp [hc, hj]
theorem rm_last {T : Nat → Bool × ByteArray} {n k f d : Nat} {ms m : List ByteArray} {ser ser' : Bool} (hlt : k < n) (hf : n + 1 ≤ k + f) (h : rm T n f k ms ser = rmTop T n) (hm : mode T n k ser = some (d, m, ser')) (hc : comma T n (k + d) = true) (hj : k + d + 1 = n) :
    rmTop T n = ([], false, false) := by
  obtain ⟨g, rfl⟩ : ∃ g, f = g + 1 := ⟨f - 1, by omega⟩
  rw [← h, rm, if_pos hlt, hm]
  simp [hc, hj]

theorem own_block {w : World} {base n : Nat} {e : TypeId} {size : Nat} {v : Value} {xs : List Value} (h : w.ownsRow base e size v n xs) : ∀ k, v.ownBlock = some k → base ≤ k := by
  intro k hk
  rcases h.2 with ⟨rfl, _⟩ | ⟨g, cap, cur, rfl, hg, _⟩
  · cases hk
  · simp [Value.ownBlock] at hk; omega

theorem info9 : (Try.prog.info? 9).map (fun i => (i.zero, i.size, i.bytes)) = some (some (.string ⟨#[]⟩), 1, 16) := by kernel_rfl

set_option maxRecDepth 100000 in
set_option maxHeartbeats 4000000 in
theorem readModes28 (T : Nat → Bool × ByteArray) (b off n c : Nat) (w : World) (hT : Toks w b off T n) (hb : b < w.heap.size) (hn : n ≤ 4194304) :
    Calls Try.prog 28 #[.slice (some ⟨b, off, none⟩) n c] w fun e w' => (∃ v, e = .returned (.tuple #[v, .bool (rmTop T n).2.1, .bool (rmTop T n).2.2]) ∧ w'.ownsRow w.heap.size 9 1 v (rmTop T n).1.length ((rmTop T n).1.map Value.string)) ∧ Below w.heap.size w w' := by
  obtain ⟨i0, hi0, hz0, hz1, hz2⟩ := info_parts info9
  go_enter Try.func28, Try.ntmps28
  go_wp2
  go_loopg [2, 3, 5] (n + 1) (fun g v s i wr => ∃ (k f : Nat) (ms : List ByteArray) (ser : Bool), k + g = n + 1 ∧ i = .int .i64 k ∧ s = .bool ser ∧ wr.ownsRow w.heap.size 9 1 v ms.length (ms.map Value.string) ∧ Below w.heap.size w wr ∧ k ≤ n ∧ ms.length ≤ k ∧ n + 1 ≤ k + f ∧ Hid (rm T n f k ms ser = rmTop T n))
  case atStart => exact ⟨0, n + 1, [], false, by omega, rfl, rfl, World.ownsRow_nil _ _ _ _, Below.refl _ _, Nat.zero_le _, Nat.zero_le _, by omega, rfl⟩
  case round =>
    obtain ⟨k, f, ms, ser, hg, rfl, rfl, own, bel, hk, hml, hf, HR⟩ := hrel
    by_cases hlt : k < n
    · have hTr : Toks wr b off T n := fun j hj => ⟨(bel.cell (p := ⟨b, off + j * 5, none⟩) hb).trans (hT j hj).1, (bel.cell (p := ⟨b, off + j * 5 + 1, none⟩) hb).trans (hT j hj).2⟩
      go_upto_block 2 with (fail)
      go_cut [2, 3, 5] (fun v s i wc => ∃ (d : Nat) (m : List ByteArray) (ser' : Bool), Hid (mode T n k ser = some (d, m, ser')) ∧ i = .int .i64 ((k + d : Nat) : Int) ∧ s = .bool ser' ∧ wc.ownsRow w.heap.size 9 1 v (ms ++ m).length ((ms ++ m).map Value.string) ∧ Below w.heap.size w wc)
      case first =>
        cases hiso0 : isW T n k sIsolation
        case false =>
          cases hread0 : isW T n k sRead
          case false =>
            cases hdef0 : isW T n k sDeferrable
            case false =>
              cases hnot0 : isW T n k sNot
              case false =>
                have hm : mode T n k ser = none := by simp [mode, hiso0, hread0, hdef0, hnot0]
                have H := rm_fail hlt hf HR.out hm
                clear hm
                have HH : Hid (rmTop T n = ([], false, false)) := H
                clear H
                go_wp2_with fail
                refine (isWf T b off n c k sIsolation _ _ _ hTr (by omega) (by rw [ByteArray.toList_eq]; rfl) hiso0).mono ?_
                rintro e w' ⟨rfl, rfl⟩
                go_wp2_with fail
                refine (isWf T b off n c k sRead _ _ _ hTr (by omega) (by rw [ByteArray.toList_eq]; rfl) hread0).mono ?_
                rintro e w' ⟨rfl, rfl⟩
                go_wp2_with fail
                refine (isWf T b off n c k sRead _ _ _ hTr (by omega) (by rw [ByteArray.toList_eq]; rfl) hread0).mono ?_
                rintro e w' ⟨rfl, rfl⟩
                go_wp2_with fail
                refine (isWf T b off n c k sDeferrable _ _ _ hTr (by omega) (by rw [ByteArray.toList_eq]; rfl) hdef0).mono ?_
                rintro e w' ⟨rfl, rfl⟩
                go_wp2_with fail
                refine (isWf T b off n c k sNot _ _ _ hTr (by omega) (by rw [ByteArray.toList_eq]; rfl) hnot0).mono ?_
                rintro e w' ⟨rfl, rfl⟩
                go_wp2
                go_ret3
                rw [HH.out]
                exact ⟨⟨_, rfl, World.ownsRow_nil _ _ _ _⟩, bel⟩
              case true =>
                cases hdef1 : isW T n (k + 1) sDeferrable
                case false =>
                  have hm : mode T n k ser = none := by simp [mode, hiso0, hread0, hdef0, hnot0, hdef1]
                  have H := rm_fail hlt hf HR.out hm
                  clear hm
                  have HH : Hid (rmTop T n = ([], false, false)) := H
                  clear H
                  go_wp2_with fail
                  refine (isWf T b off n c k sIsolation _ _ _ hTr (by omega) (by rw [ByteArray.toList_eq]; rfl) hiso0).mono ?_
                  rintro e w' ⟨rfl, rfl⟩
                  go_wp2_with fail
                  refine (isWf T b off n c k sRead _ _ _ hTr (by omega) (by rw [ByteArray.toList_eq]; rfl) hread0).mono ?_
                  rintro e w' ⟨rfl, rfl⟩
                  go_wp2_with fail
                  refine (isWf T b off n c k sRead _ _ _ hTr (by omega) (by rw [ByteArray.toList_eq]; rfl) hread0).mono ?_
                  rintro e w' ⟨rfl, rfl⟩
                  go_wp2_with fail
                  refine (isWf T b off n c k sDeferrable _ _ _ hTr (by omega) (by rw [ByteArray.toList_eq]; rfl) hdef0).mono ?_
                  rintro e w' ⟨rfl, rfl⟩
                  go_wp2_with fail
                  refine (isWt T b off n c k sNot _ _ _ hTr (by omega) (by rw [ByteArray.toList_eq]; rfl) hnot0).mono ?_
                  rintro e w' ⟨rfl, rfl⟩
                  go_wp2_with fail
                  refine (isWf T b off n c (k + 1) sDeferrable _ _ _ hTr (by omega) (by rw [ByteArray.toList_eq]; rfl) hdef1).mono ?_
                  rintro e w' ⟨rfl, rfl⟩
                  go_wp2
                  go_ret3
                  rw [HH.out]
                  exact ⟨⟨_, rfl, World.ownsRow_nil _ _ _ _⟩, bel⟩
                case true =>
                  have hm : mode T n k ser = some (2, [mNotDeferrable], ser) := by simp [mode, hiso0, hread0, hdef0, hnot0, hdef1]
                  have HM : Hid (mode T n k ser = some (2, [mNotDeferrable], ser)) := hm
                  clear hm
                  go_wp2_with fail
                  refine (isWf T b off n c k sIsolation _ _ _ hTr (by omega) (by rw [ByteArray.toList_eq]; rfl) hiso0).mono ?_
                  rintro e w' ⟨rfl, rfl⟩
                  go_wp2_with fail
                  refine (isWf T b off n c k sRead _ _ _ hTr (by omega) (by rw [ByteArray.toList_eq]; rfl) hread0).mono ?_
                  rintro e w' ⟨rfl, rfl⟩
                  go_wp2_with fail
                  refine (isWf T b off n c k sRead _ _ _ hTr (by omega) (by rw [ByteArray.toList_eq]; rfl) hread0).mono ?_
                  rintro e w' ⟨rfl, rfl⟩
                  go_wp2_with fail
                  refine (isWf T b off n c k sDeferrable _ _ _ hTr (by omega) (by rw [ByteArray.toList_eq]; rfl) hdef0).mono ?_
                  rintro e w' ⟨rfl, rfl⟩
                  go_wp2_with fail
                  refine (isWt T b off n c k sNot _ _ _ hTr (by omega) (by rw [ByteArray.toList_eq]; rfl) hnot0).mono ?_
                  rintro e w' ⟨rfl, rfl⟩
                  go_wp2_with fail
                  refine (isWt T b off n c (k + 1) sDeferrable _ _ _ hTr (by omega) (by rw [ByteArray.toList_eq]; rfl) hdef1).mono ?_
                  rintro e w' ⟨rfl, rfl⟩
                  go_wp2_with (at_builtin; refine wpList_append_own _ rfl (.tmp 104) (.tmp 105) 25 rfl w.heap.size 9 i0 (.string ⟨#[]⟩) 1 16 Try.underlying25 hi0 hz0 hz1 hz2 rfl (by decide) _ _ _ rfl (own.alloc _) ⟨wr.heap.size, 0, none⟩ 1 1 [.string mNotDeferrable] rfl rfl (cell_one_new _ _ _) (by intro u hu; simp at hu; subst hu; rfl) (by unfold maxLen; omega) (by omega) (by have := bel.size; simp; omega) ?_; intro v' w1 own1 grow1 _)
                  go_meet
                  case rel => exact ⟨2, [mNotDeferrable], ser, HM, by go_num, rfl, by simpa using own1, (bel.alloc bel.size _).grown grow1 (by have := bel.size; simp; omega) (own_block own)⟩
            case true =>
              have hm : mode T n k ser = some (1, [mDeferrable], ser) := by simp [mode, hiso0, hread0, hdef0]
              have HM : Hid (mode T n k ser = some (1, [mDeferrable], ser)) := hm
              clear hm
              go_wp2_with fail
              refine (isWf T b off n c k sIsolation _ _ _ hTr (by omega) (by rw [ByteArray.toList_eq]; rfl) hiso0).mono ?_
              rintro e w' ⟨rfl, rfl⟩
              go_wp2_with fail
              refine (isWf T b off n c k sRead _ _ _ hTr (by omega) (by rw [ByteArray.toList_eq]; rfl) hread0).mono ?_
              rintro e w' ⟨rfl, rfl⟩
              go_wp2_with fail
              refine (isWf T b off n c k sRead _ _ _ hTr (by omega) (by rw [ByteArray.toList_eq]; rfl) hread0).mono ?_
              rintro e w' ⟨rfl, rfl⟩
              go_wp2_with fail
              refine (isWt T b off n c k sDeferrable _ _ _ hTr (by omega) (by rw [ByteArray.toList_eq]; rfl) hdef0).mono ?_
              rintro e w' ⟨rfl, rfl⟩
              go_wp2_with (at_builtin; refine wpList_append_own _ rfl (.tmp 89) (.tmp 90) 25 rfl w.heap.size 9 i0 (.string ⟨#[]⟩) 1 16 Try.underlying25 hi0 hz0 hz1 hz2 rfl (by decide) _ _ _ rfl (own.alloc _) ⟨wr.heap.size, 0, none⟩ 1 1 [.string mDeferrable] rfl rfl (cell_one_new _ _ _) (by intro u hu; simp at hu; subst hu; rfl) (by unfold maxLen; omega) (by omega) (by have := bel.size; simp; omega) ?_; intro v' w1 own1 grow1 _)
              go_meet
              case rel => exact ⟨1, [mDeferrable], ser, HM, by go_num, rfl, by simpa using own1, (bel.alloc bel.size _).grown grow1 (by have := bel.size; simp; omega) (own_block own)⟩
          case true =>
            cases honly1 : isW T n (k + 1) sOnly
            case false =>
              cases hwrite1 : isW T n (k + 1) sWrite
              case false =>
                have hdef0 : isW T n k sDeferrable = false := isW_ne hread0 (by decide)
                have hnot0 : isW T n k sNot = false := isW_ne hread0 (by decide)
                have hm : mode T n k ser = none := by simp [mode, hiso0, hread0, honly1, hwrite1, hdef0, hnot0]
                have H := rm_fail hlt hf HR.out hm
                clear hm
                have HH : Hid (rmTop T n = ([], false, false)) := H
                clear H
                go_wp2_with fail
                refine (isWf T b off n c k sIsolation _ _ _ hTr (by omega) (by rw [ByteArray.toList_eq]; rfl) hiso0).mono ?_
                rintro e w' ⟨rfl, rfl⟩
                go_wp2_with fail
                refine (isWt T b off n c k sRead _ _ _ hTr (by omega) (by rw [ByteArray.toList_eq]; rfl) hread0).mono ?_
                rintro e w' ⟨rfl, rfl⟩
                go_wp2_with fail
                refine (isWf T b off n c (k + 1) sOnly _ _ _ hTr (by omega) (by rw [ByteArray.toList_eq]; rfl) honly1).mono ?_
                rintro e w' ⟨rfl, rfl⟩
                go_wp2_with fail
                refine (isWt T b off n c k sRead _ _ _ hTr (by omega) (by rw [ByteArray.toList_eq]; rfl) hread0).mono ?_
                rintro e w' ⟨rfl, rfl⟩
                go_wp2_with fail
                refine (isWf T b off n c (k + 1) sWrite _ _ _ hTr (by omega) (by rw [ByteArray.toList_eq]; rfl) hwrite1).mono ?_
                rintro e w' ⟨rfl, rfl⟩
                go_wp2_with fail
                refine (isWf T b off n c k sDeferrable _ _ _ hTr (by omega) (by rw [ByteArray.toList_eq]; rfl) hdef0).mono ?_
                rintro e w' ⟨rfl, rfl⟩
                go_wp2_with fail
                refine (isWf T b off n c k sNot _ _ _ hTr (by omega) (by rw [ByteArray.toList_eq]; rfl) hnot0).mono ?_
                rintro e w' ⟨rfl, rfl⟩
                go_wp2
                go_ret3
                rw [HH.out]
                exact ⟨⟨_, rfl, World.ownsRow_nil _ _ _ _⟩, bel⟩
              case true =>
                have hm : mode T n k ser = some (2, [mReadWrite], ser) := by simp [mode, hiso0, hread0, honly1, hwrite1]
                have HM : Hid (mode T n k ser = some (2, [mReadWrite], ser)) := hm
                clear hm
                go_wp2_with fail
                refine (isWf T b off n c k sIsolation _ _ _ hTr (by omega) (by rw [ByteArray.toList_eq]; rfl) hiso0).mono ?_
                rintro e w' ⟨rfl, rfl⟩
                go_wp2_with fail
                refine (isWt T b off n c k sRead _ _ _ hTr (by omega) (by rw [ByteArray.toList_eq]; rfl) hread0).mono ?_
                rintro e w' ⟨rfl, rfl⟩
                go_wp2_with fail
                refine (isWf T b off n c (k + 1) sOnly _ _ _ hTr (by omega) (by rw [ByteArray.toList_eq]; rfl) honly1).mono ?_
                rintro e w' ⟨rfl, rfl⟩
                go_wp2_with fail
                refine (isWt T b off n c k sRead _ _ _ hTr (by omega) (by rw [ByteArray.toList_eq]; rfl) hread0).mono ?_
                rintro e w' ⟨rfl, rfl⟩
                go_wp2_with fail
                refine (isWt T b off n c (k + 1) sWrite _ _ _ hTr (by omega) (by rw [ByteArray.toList_eq]; rfl) hwrite1).mono ?_
                rintro e w' ⟨rfl, rfl⟩
                go_wp2_with (at_builtin; refine wpList_append_own _ rfl (.tmp 80) (.tmp 81) 25 rfl w.heap.size 9 i0 (.string ⟨#[]⟩) 1 16 Try.underlying25 hi0 hz0 hz1 hz2 rfl (by decide) _ _ _ rfl (own.alloc _) ⟨wr.heap.size, 0, none⟩ 1 1 [.string mReadWrite] rfl rfl (cell_one_new _ _ _) (by intro u hu; simp at hu; subst hu; rfl) (by unfold maxLen; omega) (by omega) (by have := bel.size; simp; omega) ?_; intro v' w1 own1 grow1 _)
                go_meet
                case rel => exact ⟨2, [mReadWrite], ser, HM, by go_num, rfl, by simpa using own1, (bel.alloc bel.size _).grown grow1 (by have := bel.size; simp; omega) (own_block own)⟩
            case true =>
              have hm : mode T n k ser = some (2, [mReadOnly], ser) := by simp [mode, hiso0, hread0, honly1]
              have HM : Hid (mode T n k ser = some (2, [mReadOnly], ser)) := hm
              clear hm
              go_wp2_with fail
              refine (isWf T b off n c k sIsolation _ _ _ hTr (by omega) (by rw [ByteArray.toList_eq]; rfl) hiso0).mono ?_
              rintro e w' ⟨rfl, rfl⟩
              go_wp2_with fail
              refine (isWt T b off n c k sRead _ _ _ hTr (by omega) (by rw [ByteArray.toList_eq]; rfl) hread0).mono ?_
              rintro e w' ⟨rfl, rfl⟩
              go_wp2_with fail
              refine (isWt T b off n c (k + 1) sOnly _ _ _ hTr (by omega) (by rw [ByteArray.toList_eq]; rfl) honly1).mono ?_
              rintro e w' ⟨rfl, rfl⟩
              go_wp2_with (at_builtin; refine wpList_append_own _ rfl (.tmp 65) (.tmp 66) 25 rfl w.heap.size 9 i0 (.string ⟨#[]⟩) 1 16 Try.underlying25 hi0 hz0 hz1 hz2 rfl (by decide) _ _ _ rfl (own.alloc _) ⟨wr.heap.size, 0, none⟩ 1 1 [.string mReadOnly] rfl rfl (cell_one_new _ _ _) (by intro u hu; simp at hu; subst hu; rfl) (by unfold maxLen; omega) (by omega) (by have := bel.size; simp; omega) ?_; intro v' w1 own1 grow1 _)
              go_meet
              case rel => exact ⟨2, [mReadOnly], ser, HM, by go_num, rfl, by simpa using own1, (bel.alloc bel.size _).grown grow1 (by have := bel.size; simp; omega) (own_block own)⟩
        case true =>
          cases hlevel1 : isW T n (k + 1) sLevel
          case false =>
            have hread0 : isW T n k sRead = false := isW_ne hiso0 (by decide)
            have hdef0 : isW T n k sDeferrable = false := isW_ne hiso0 (by decide)
            have hnot0 : isW T n k sNot = false := isW_ne hiso0 (by decide)
            have hm : mode T n k ser = none := by simp [mode, hiso0, hlevel1, hread0, hdef0, hnot0]
            have H := rm_fail hlt hf HR.out hm
            clear hm
            have HH : Hid (rmTop T n = ([], false, false)) := H
            clear H
            go_wp2_with fail
            refine (isWt T b off n c k sIsolation _ _ _ hTr (by omega) (by rw [ByteArray.toList_eq]; rfl) hiso0).mono ?_
            rintro e w' ⟨rfl, rfl⟩
            go_wp2_with fail
            refine (isWf T b off n c (k + 1) sLevel _ _ _ hTr (by omega) (by rw [ByteArray.toList_eq]; rfl) hlevel1).mono ?_
            rintro e w' ⟨rfl, rfl⟩
            go_wp2_with fail
            refine (isWf T b off n c k sRead _ _ _ hTr (by omega) (by rw [ByteArray.toList_eq]; rfl) hread0).mono ?_
            rintro e w' ⟨rfl, rfl⟩
            go_wp2_with fail
            refine (isWf T b off n c k sRead _ _ _ hTr (by omega) (by rw [ByteArray.toList_eq]; rfl) hread0).mono ?_
            rintro e w' ⟨rfl, rfl⟩
            go_wp2_with fail
            refine (isWf T b off n c k sDeferrable _ _ _ hTr (by omega) (by rw [ByteArray.toList_eq]; rfl) hdef0).mono ?_
            rintro e w' ⟨rfl, rfl⟩
            go_wp2_with fail
            refine (isWf T b off n c k sNot _ _ _ hTr (by omega) (by rw [ByteArray.toList_eq]; rfl) hnot0).mono ?_
            rintro e w' ⟨rfl, rfl⟩
            go_wp2
            go_ret3
            rw [HH.out]
            exact ⟨⟨_, rfl, World.ownsRow_nil _ _ _ _⟩, bel⟩
          case true =>
            cases hser2 : isW T n (k + 2) sSerializable
            case false =>
              cases hrep2 : isW T n (k + 2) sRepeatable
              case false =>
                cases hread2 : isW T n (k + 2) sRead
                case false =>
                  have hm : mode T n k ser = none := by simp [mode, hiso0, hlevel1, hser2, hrep2, hread2]
                  have H := rm_fail hlt hf HR.out hm
                  clear hm
                  have HH : Hid (rmTop T n = ([], false, false)) := H
                  clear H
                  go_wp2_with fail
                  refine (isWt T b off n c k sIsolation _ _ _ hTr (by omega) (by rw [ByteArray.toList_eq]; rfl) hiso0).mono ?_
                  rintro e w' ⟨rfl, rfl⟩
                  go_wp2_with fail
                  refine (isWt T b off n c (k + 1) sLevel _ _ _ hTr (by omega) (by rw [ByteArray.toList_eq]; rfl) hlevel1).mono ?_
                  rintro e w' ⟨rfl, rfl⟩
                  go_wp2_with fail
                  refine (isWf T b off n c (k + 2) sSerializable _ _ _ hTr (by omega) (by rw [ByteArray.toList_eq]; rfl) hser2).mono ?_
                  rintro e w' ⟨rfl, rfl⟩
                  go_wp2_with fail
                  refine (isWf T b off n c (k + 2) sRepeatable _ _ _ hTr (by omega) (by rw [ByteArray.toList_eq]; rfl) hrep2).mono ?_
                  rintro e w' ⟨rfl, rfl⟩
                  go_wp2_with fail
                  refine (isWf T b off n c (k + 2) sRead _ _ _ hTr (by omega) (by rw [ByteArray.toList_eq]; rfl) hread2).mono ?_
                  rintro e w' ⟨rfl, rfl⟩
                  go_wp2
                  go_ret3
                  rw [HH.out]
                  exact ⟨⟨_, rfl, World.ownsRow_nil _ _ _ _⟩, bel⟩
                case true =>
                  cases hcom3 : isW T n (k + 2 + 1) sCommitted
                  case false =>
                    cases hunc3 : isW T n (k + 2 + 1) sUncommitted
                    case false =>
                      have hm : mode T n k ser = none := by simp [mode, hiso0, hlevel1, hser2, hrep2, hread2, hcom3, hunc3]
                      have H := rm_fail hlt hf HR.out hm
                      clear hm
                      have HH : Hid (rmTop T n = ([], false, false)) := H
                      clear H
                      go_wp2_with fail
                      refine (isWt T b off n c k sIsolation _ _ _ hTr (by omega) (by rw [ByteArray.toList_eq]; rfl) hiso0).mono ?_
                      rintro e w' ⟨rfl, rfl⟩
                      go_wp2_with fail
                      refine (isWt T b off n c (k + 1) sLevel _ _ _ hTr (by omega) (by rw [ByteArray.toList_eq]; rfl) hlevel1).mono ?_
                      rintro e w' ⟨rfl, rfl⟩
                      go_wp2_with fail
                      refine (isWf T b off n c (k + 2) sSerializable _ _ _ hTr (by omega) (by rw [ByteArray.toList_eq]; rfl) hser2).mono ?_
                      rintro e w' ⟨rfl, rfl⟩
                      go_wp2_with fail
                      refine (isWf T b off n c (k + 2) sRepeatable _ _ _ hTr (by omega) (by rw [ByteArray.toList_eq]; rfl) hrep2).mono ?_
                      rintro e w' ⟨rfl, rfl⟩
                      go_wp2_with fail
                      refine (isWt T b off n c (k + 2) sRead _ _ _ hTr (by omega) (by rw [ByteArray.toList_eq]; rfl) hread2).mono ?_
                      rintro e w' ⟨rfl, rfl⟩
                      go_wp2_with fail
                      refine (isWf T b off n c (k + 2 + 1) sCommitted _ _ _ hTr (by omega) (by rw [ByteArray.toList_eq]; rfl) hcom3).mono ?_
                      rintro e w' ⟨rfl, rfl⟩
                      go_wp2_with fail
                      refine (isWf T b off n c (k + 2 + 1) sUncommitted _ _ _ hTr (by omega) (by rw [ByteArray.toList_eq]; rfl) hunc3).mono ?_
                      rintro e w' ⟨rfl, rfl⟩
                      go_wp2
                      go_ret3
                      rw [HH.out]
                      exact ⟨⟨_, rfl, World.ownsRow_nil _ _ _ _⟩, bel⟩
                    case true =>
                      have hm : mode T n k ser = some (4, [], false) := by simp [mode, hiso0, hlevel1, hser2, hrep2, hread2, hcom3, hunc3]
                      have HM : Hid (mode T n k ser = some (4, [], false)) := hm
                      clear hm
                      go_wp2_with fail
                      refine (isWt T b off n c k sIsolation _ _ _ hTr (by omega) (by rw [ByteArray.toList_eq]; rfl) hiso0).mono ?_
                      rintro e w' ⟨rfl, rfl⟩
                      go_wp2_with fail
                      refine (isWt T b off n c (k + 1) sLevel _ _ _ hTr (by omega) (by rw [ByteArray.toList_eq]; rfl) hlevel1).mono ?_
                      rintro e w' ⟨rfl, rfl⟩
                      go_wp2_with fail
                      refine (isWf T b off n c (k + 2) sSerializable _ _ _ hTr (by omega) (by rw [ByteArray.toList_eq]; rfl) hser2).mono ?_
                      rintro e w' ⟨rfl, rfl⟩
                      go_wp2_with fail
                      refine (isWf T b off n c (k + 2) sRepeatable _ _ _ hTr (by omega) (by rw [ByteArray.toList_eq]; rfl) hrep2).mono ?_
                      rintro e w' ⟨rfl, rfl⟩
                      go_wp2_with fail
                      refine (isWt T b off n c (k + 2) sRead _ _ _ hTr (by omega) (by rw [ByteArray.toList_eq]; rfl) hread2).mono ?_
                      rintro e w' ⟨rfl, rfl⟩
                      go_wp2_with fail
                      refine (isWf T b off n c (k + 2 + 1) sCommitted _ _ _ hTr (by omega) (by rw [ByteArray.toList_eq]; rfl) hcom3).mono ?_
                      rintro e w' ⟨rfl, rfl⟩
                      go_wp2_with fail
                      refine (isWt T b off n c (k + 2 + 1) sUncommitted _ _ _ hTr (by omega) (by rw [ByteArray.toList_eq]; rfl) hunc3).mono ?_
                      rintro e w' ⟨rfl, rfl⟩
                      go_wp2
                      go_meet
                      case rel => exact ⟨4, [], false, HM, by go_num, rfl, by simpa using own, bel⟩
                  case true =>
                    have hm : mode T n k ser = some (4, [], false) := by simp [mode, hiso0, hlevel1, hser2, hrep2, hread2, hcom3]
                    have HM : Hid (mode T n k ser = some (4, [], false)) := hm
                    clear hm
                    go_wp2_with fail
                    refine (isWt T b off n c k sIsolation _ _ _ hTr (by omega) (by rw [ByteArray.toList_eq]; rfl) hiso0).mono ?_
                    rintro e w' ⟨rfl, rfl⟩
                    go_wp2_with fail
                    refine (isWt T b off n c (k + 1) sLevel _ _ _ hTr (by omega) (by rw [ByteArray.toList_eq]; rfl) hlevel1).mono ?_
                    rintro e w' ⟨rfl, rfl⟩
                    go_wp2_with fail
                    refine (isWf T b off n c (k + 2) sSerializable _ _ _ hTr (by omega) (by rw [ByteArray.toList_eq]; rfl) hser2).mono ?_
                    rintro e w' ⟨rfl, rfl⟩
                    go_wp2_with fail
                    refine (isWf T b off n c (k + 2) sRepeatable _ _ _ hTr (by omega) (by rw [ByteArray.toList_eq]; rfl) hrep2).mono ?_
                    rintro e w' ⟨rfl, rfl⟩
                    go_wp2_with fail
                    refine (isWt T b off n c (k + 2) sRead _ _ _ hTr (by omega) (by rw [ByteArray.toList_eq]; rfl) hread2).mono ?_
                    rintro e w' ⟨rfl, rfl⟩
                    go_wp2_with fail
                    refine (isWt T b off n c (k + 2 + 1) sCommitted _ _ _ hTr (by omega) (by rw [ByteArray.toList_eq]; rfl) hcom3).mono ?_
                    rintro e w' ⟨rfl, rfl⟩
                    go_wp2
                    go_meet
                    case rel => exact ⟨4, [], false, HM, by go_num, rfl, by simpa using own, bel⟩
              case true =>
                cases hread3 : isW T n (k + 2 + 1) sRead
                case false =>
                  have hread2 : isW T n (k + 2) sRead = false := isW_ne hrep2 (by decide)
                  have hm : mode T n k ser = none := by simp [mode, hiso0, hlevel1, hser2, hrep2, hread3, hread2]
                  have H := rm_fail hlt hf HR.out hm
                  clear hm
                  have HH : Hid (rmTop T n = ([], false, false)) := H
                  clear H
                  go_wp2_with fail
                  refine (isWt T b off n c k sIsolation _ _ _ hTr (by omega) (by rw [ByteArray.toList_eq]; rfl) hiso0).mono ?_
                  rintro e w' ⟨rfl, rfl⟩
                  go_wp2_with fail
                  refine (isWt T b off n c (k + 1) sLevel _ _ _ hTr (by omega) (by rw [ByteArray.toList_eq]; rfl) hlevel1).mono ?_
                  rintro e w' ⟨rfl, rfl⟩
                  go_wp2_with fail
                  refine (isWf T b off n c (k + 2) sSerializable _ _ _ hTr (by omega) (by rw [ByteArray.toList_eq]; rfl) hser2).mono ?_
                  rintro e w' ⟨rfl, rfl⟩
                  go_wp2_with fail
                  refine (isWt T b off n c (k + 2) sRepeatable _ _ _ hTr (by omega) (by rw [ByteArray.toList_eq]; rfl) hrep2).mono ?_
                  rintro e w' ⟨rfl, rfl⟩
                  go_wp2_with fail
                  refine (isWf T b off n c (k + 2 + 1) sRead _ _ _ hTr (by omega) (by rw [ByteArray.toList_eq]; rfl) hread3).mono ?_
                  rintro e w' ⟨rfl, rfl⟩
                  go_wp2_with fail
                  refine (isWf T b off n c (k + 2) sRead _ _ _ hTr (by omega) (by rw [ByteArray.toList_eq]; rfl) hread2).mono ?_
                  rintro e w' ⟨rfl, rfl⟩
                  go_wp2
                  go_ret3
                  rw [HH.out]
                  exact ⟨⟨_, rfl, World.ownsRow_nil _ _ _ _⟩, bel⟩
                case true =>
                  have hm : mode T n k ser = some (4, [], false) := by simp [mode, hiso0, hlevel1, hser2, hrep2, hread3]
                  have HM : Hid (mode T n k ser = some (4, [], false)) := hm
                  clear hm
                  go_wp2_with fail
                  refine (isWt T b off n c k sIsolation _ _ _ hTr (by omega) (by rw [ByteArray.toList_eq]; rfl) hiso0).mono ?_
                  rintro e w' ⟨rfl, rfl⟩
                  go_wp2_with fail
                  refine (isWt T b off n c (k + 1) sLevel _ _ _ hTr (by omega) (by rw [ByteArray.toList_eq]; rfl) hlevel1).mono ?_
                  rintro e w' ⟨rfl, rfl⟩
                  go_wp2_with fail
                  refine (isWf T b off n c (k + 2) sSerializable _ _ _ hTr (by omega) (by rw [ByteArray.toList_eq]; rfl) hser2).mono ?_
                  rintro e w' ⟨rfl, rfl⟩
                  go_wp2_with fail
                  refine (isWt T b off n c (k + 2) sRepeatable _ _ _ hTr (by omega) (by rw [ByteArray.toList_eq]; rfl) hrep2).mono ?_
                  rintro e w' ⟨rfl, rfl⟩
                  go_wp2_with fail
                  refine (isWt T b off n c (k + 2 + 1) sRead _ _ _ hTr (by omega) (by rw [ByteArray.toList_eq]; rfl) hread3).mono ?_
                  rintro e w' ⟨rfl, rfl⟩
                  go_wp2
                  go_meet
                  case rel => exact ⟨4, [], false, HM, by go_num, rfl, by simpa using own, bel⟩
            case true =>
              have hm : mode T n k ser = some (3, [], true) := by simp [mode, hiso0, hlevel1, hser2]
              have HM : Hid (mode T n k ser = some (3, [], true)) := hm
              clear hm
              go_wp2_with fail
              refine (isWt T b off n c k sIsolation _ _ _ hTr (by omega) (by rw [ByteArray.toList_eq]; rfl) hiso0).mono ?_
              rintro e w' ⟨rfl, rfl⟩
              go_wp2_with fail
              refine (isWt T b off n c (k + 1) sLevel _ _ _ hTr (by omega) (by rw [ByteArray.toList_eq]; rfl) hlevel1).mono ?_
              rintro e w' ⟨rfl, rfl⟩
              go_wp2_with fail
              refine (isWt T b off n c (k + 2) sSerializable _ _ _ hTr (by omega) (by rw [ByteArray.toList_eq]; rfl) hser2).mono ?_
              rintro e w' ⟨rfl, rfl⟩
              go_wp2
              go_meet
              case rel => exact ⟨3, [], true, HM, by go_num, rfl, by simpa using own, bel⟩
      case rest =>
        obtain ⟨d, m, ser', HM, rfl, rfl, own', bel'⟩ := hcut
        have hd1 := mode_pos HM.out
        have hd2 := mode_le HM.out
        have hd3 := mode_one HM.out
        have hTc : Toks wc b off T n := fun j hj => ⟨(bel'.cell (p := ⟨b, off + j * 5, none⟩) hb).trans (hT j hj).1, (bel'.cell (p := ⟨b, off + j * 5 + 1, none⟩) hb).trans (hT j hj).2⟩
        have hlen : (ms ++ m).length ≤ k + d := by simp; omega
        obtain ⟨j, hj⟩ : ∃ j, Hid (k + d = j) := ⟨_, rfl⟩
        rw [hj.out] at hd2 hlen ⊢
        by_cases hjn : j < n
        · obtain ⟨t0, t1⟩ := hTc j hjn
          cases hw : (T j).1
          · rw [hw] at t0
            cases hs : (T j).2.toList == [44]
            · have hc : comma T n (k + d) = false := by rw [hj.out]; simp only [comma, hw, hs]; simp
              have R := rm_step hlt hf HR.out HM.out hc
              have R' : Hid (rm T n (f - 1) j (ms ++ m) ser' = rmTop T n) := by rw [← hj.out]; exact R
              clear R hc
              have hjk := hj.out
              go_wp2
              go_roundg (n + 1 - j)
              case measure => omega
              case rel => exact ⟨j, f - 1, ms ++ m, ser', by omega, rfl, rfl, own', bel', by omega, by omega, by omega, R'⟩
            · have hc : comma T n (k + d) = true := by rw [hj.out]; simp only [comma, hw, hs]; simp [hjn]
              by_cases hl : j + 1 = n
              · have H := rm_last hlt hf HR.out HM.out hc (by rw [hj.out]; exact hl)
                have HH : Hid (rmTop T n = ([], false, false)) := H
                clear H hc
                have hl' : ((j : Int) + 1 == (n : Int)) = true := by simp; omega
                go_wp2
                go_ret3
                rw [HH.out]
                exact ⟨⟨_, rfl, World.ownsRow_nil _ _ _ _⟩, bel'⟩
              · have R := rm_comma hlt hf HR.out HM.out hc (by rw [hj.out]; exact hl)
                have R' : Hid (rm T n (f - 1) (j + 1) (ms ++ m) ser' = rmTop T n) := by rw [← hj.out]; exact R
                clear R hc
                have hjk := hj.out
                have hl' : ((j : Int) + 1 == (n : Int)) = false := by simp; omega
                go_wp2
                go_roundg (n + 1 - (j + 1))
                case measure => omega
                case rel => exact ⟨j + 1, f - 1, ms ++ m, ser', by omega, by go_num, rfl, own', bel', by omega, by omega, by omega, R'⟩
          · rw [hw] at t0
            have hc : comma T n (k + d) = false := by rw [hj.out]; simp only [comma, hw]; simp
            have R := rm_step hlt hf HR.out HM.out hc
            have R' : Hid (rm T n (f - 1) j (ms ++ m) ser' = rmTop T n) := by rw [← hj.out]; exact R
            clear R hc
            have hjk := hj.out
            go_wp2
            go_roundg (n + 1 - j)
            case measure => omega
            case rel => exact ⟨j, f - 1, ms ++ m, ser', by omega, rfl, rfl, own', bel', by omega, by omega, by omega, R'⟩
        · have hc : comma T n (k + d) = false := by rw [hj.out]; simp [comma, hjn]
          have R := rm_step hlt hf HR.out HM.out hc
          have R' : Hid (rm T n (f - 1) j (ms ++ m) ser' = rmTop T n) := by rw [← hj.out]; exact R
          clear R hc
          have hjk := hj.out
          go_wp2
          go_roundg (n + 1 - j)
          case measure => omega
          case rel => exact ⟨j, f - 1, ms ++ m, ser', by omega, rfl, rfl, own', bel', by omega, by omega, by omega, R'⟩
    · have H := rm_end hlt hk hf HR.out
      have HH : Hid (rmTop T n = (ms, ser, true)) := H
      clear H
      go_wp2
      go_ret3
      rw [HH.out]
      exact ⟨⟨_, rfl, own⟩, bel⟩

end Go.Proofs.Qxb6618616a
