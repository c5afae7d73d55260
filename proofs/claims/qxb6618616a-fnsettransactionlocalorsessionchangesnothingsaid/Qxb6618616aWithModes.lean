/- The contract of WithModes, and what it joins. -/
import Derived.Test.Qxb6618616aReadModes
import Derived.Test.Qxb6618616aShelf
import Derived.WalkKit
import Derived.WalkSpells
import Derived.WalkLawsBesides
import Derived.Deep.LoopGhost
import Derived.Deep.DeepCutAuto
set_option linter.unusedSimpArgs false
set_option linter.unusedVariables false
namespace Go.Proofs.Qxb6618616a
open Go.RowKit

def sep : List UInt8 := [44, 32]
/-- strings.Join at a comma and a blank. -/
def joinB (xs : List ByteArray) : ByteArray := ⟨(Lib.join (xs.map (·.data.toList)) sep).toArray⟩
def rr : ByteArray := ⟨#[83, 69, 84, 32, 84, 82, 65, 78, 83, 65, 67, 84, 73, 79, 78]⟩ ++ ⟨#[32]⟩ ++ ⟨#[73, 83, 79, 76, 65, 84, 73, 79, 78, 32, 76, 69, 86, 69, 76, 32, 82, 69, 80, 69, 65, 84, 65, 66, 76, 69, 32, 82, 69, 65, 68]⟩
theorem rr_size : rr.size = 47 := by decide
/-- The parts that WithModes joins. -/
def parts (m : ByteArray) : List ByteArray := if m.toList.isEmpty then [rr] else [rr, m]
/-- What WithModes answers for SET TRANSACTION and one text of modes. -/
def withM (m : ByteArray) : ByteArray := joinB (parts m)

theorem own_cells {w : World} {base : Nat} {v : Value} {xs : List ByteArray} (h : w.ownsRow base 9 1 v xs.length (xs.map Value.string)) (hne : xs ≠ []) :
    ∃ g cap, v = .slice (some ⟨g, 0, none⟩) xs.length cap ∧ base ≤ g ∧ g < w.heap.size ∧ xs.length ≤ cap ∧ ∀ (j : Nat) x, xs[j]? = some x → w.cell? ⟨g, 0 + j, none⟩ = some (.string x) := by
  rcases h.2 with ⟨_, h0⟩ | ⟨g, cap, cur, rfl, hg, hb, hc, _, hsz, ht⟩
  · exact absurd (List.length_eq_zero_iff.1 h0) hne
  · refine ⟨g, cap, rfl, hg, ?_, hc, fun j x hj => ?_⟩
    · rcases Nat.lt_or_ge g w.heap.size with h' | h'
      · exact h'
      · rw [Array.getElem?_eq_none h'] at hb; cases hb
    · have hlt : j < xs.length := (List.getElem?_eq_some_iff.1 hj).1
      have e : cur[j]? = some (.string x) := by
        have h1 : (cur.toList.take (xs.length * 1))[j]? = some (.string x) := by rw [ht, List.getElem?_map, hj]; rfl
        rw [List.getElem?_take_of_lt (by omega)] at h1
        simpa using h1
      simp [World.cell?, hb, e]

theorem join_two (x y : ByteArray) : (Lib.join ([x, y].map (·.data.toList)) sep).length = x.size + 2 + y.size := by
  have e : Lib.join ([x, y].map (·.data.toList)) sep = x.data.toList ++ (sep ++ (y.data.toList ++ [])) := rfl
  rw [e, List.length_append, List.length_append, List.length_append, Array.length_toList, Array.length_toList]
  show x.size + (2 + (y.size + 0)) = _
  omega
theorem join_single (x : ByteArray) : (Lib.join ([x].map (·.data.toList)) sep).length = x.size := by
  have e : Lib.join ([x].map (·.data.toList)) sep = x.data.toList ++ [] := rfl
  rw [e, List.length_append, Array.length_toList]
  rfl

theorem parts_ne (m : ByteArray) : parts m ≠ [] := by unfold parts; split <;> simp
theorem parts_len (m : ByteArray) : (parts m).length ≤ 2 := by unfold parts; split <;> simp
theorem parts_join (m : ByteArray) (h : m.size ≤ 1073741824) : (Lib.join ((parts m).map (·.data.toList)) sep).length ≤ 140737488355328 := by
  unfold parts
  split
  · rw [join_single, rr_size]; omega
  · rw [join_two, rr_size]; omega

set_option maxHeartbeats 1000000 in
theorem withModes30 (b c : Nat) (m : ByteArray) (w : World) (hb : b < w.heap.size) (hm : w.cell? ⟨b, 0, none⟩ = some (.string m)) (hs : m.size ≤ 1073741824) :
    Calls Try.prog 30 #[.string ⟨#[83, 69, 84, 32, 84, 82, 65, 78, 83, 65, 67, 84, 73, 79, 78]⟩, .slice (some ⟨b, 0, none⟩) 1 c] w fun e w' => e = .returned (.string (withM m)) ∧ Below w.heap.size w w' := by
  obtain ⟨i0, hi0, hz0, hz1, hz2⟩ := info_parts info9
  go_enter Try.func30, Try.ntmps30
  go_wp2
  go_loopg [5, 14] 1 (fun g v i wr => ∃ (k : Nat) (xs : List ByteArray), k + g = 1 ∧ i = .int .i64 k ∧ Hid (xs = if k = 0 then [rr] else parts m) ∧ wr.ownsRow w.heap.size 9 1 v xs.length (xs.map Value.string) ∧ Below w.heap.size w wr)
  case atStart =>
    refine ⟨0, [rr], by omega, rfl, rfl, ?_, (Below.refl _ _).alloc (Nat.le_refl _) _⟩
    exact World.ownsRow_lit w _ 1 (Nat.le_refl _) (by decide) rfl
  case round =>
    obtain ⟨k, xs, hg, rfl, hx, own, bel⟩ := hrel
    by_cases hk : k = 0
    · subst hk
      have hx' : xs = [rr] := by rw [hx.out]; rfl
      subst hx'
      have hmr := (bel.cell (p := ⟨b, 0, none⟩) hb).trans hm
      cases he : m.toList.isEmpty
      · go_wp2_with (at_builtin; refine wpList_append_own _ rfl (.tmp 20) (.tmp 22) 25 rfl w.heap.size 9 i0 (.string ⟨#[]⟩) 1 16 Try.underlying25 hi0 hz0 hz1 hz2 rfl (by decide) _ _ _ rfl (own.alloc _) ⟨wr.heap.size, 0, none⟩ 1 1 [.string m] rfl rfl (cell_one_new _ _ _) (by intro u hu; simp at hu; subst hu; rfl) (by decide) (by decide) (by have := bel.size; simp; omega) ?_; intro v' w1 own1 grow1 _)
        go_wp2
        go_roundg 0
        case measure => omega
        case rel => exact ⟨1, [rr, m], by omega, by go_num, by show _ = _; simp [parts, he], own1, (bel.alloc bel.size _).grown grow1 (by have := bel.size; simp; omega) (own_block own)⟩
      · go_wp2
        go_roundg 0
        case measure => omega
        case rel => exact ⟨1, [rr], by omega, by go_num, by show _ = _; simp [parts, he], own, bel⟩
    · obtain rfl : k = 1 := by omega
      have hx' : xs = parts m := by rw [hx.out]; rfl
      subst hx'
      obtain ⟨g, cap, rfl, hg1, hg2, hg3, hc⟩ := own_cells own (parts_ne m)
      have := parts_len m
      go_wp2_with fail
      refine (Try.strings_Join g 0 cap (parts m) _ wr hc hg2 (by omega) hg3 (parts_join m hs)).mono ?_
      rintro e w' ⟨rfl, hb'⟩
      go_wp2
      go_ret
      exact ⟨rfl, bel.trans (hb'.mono bel.size)⟩

end Go.Proofs.Qxb6618616a
