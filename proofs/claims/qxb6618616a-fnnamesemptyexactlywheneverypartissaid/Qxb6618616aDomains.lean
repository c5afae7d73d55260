/- The contract of sqb1Domains. -/
import Derived.Test.Qxb6618616aSizes
import Derived.WalkKit
import Derived.WalkSpells
import Derived.WalkLawsBesides
import Derived.Deep.RegionHeld3
import Derived.Deep.LoopGhost
import Derived.Deep.OwnRows
set_option linter.unusedSimpArgs false
set_option linter.unusedVariables false
namespace Go.Proofs.Qxb6618616a
open Go.RowKit

theorem info38 : (Try.prog.info? 38).map (fun i => (i.zero, i.size, i.bytes)) = some (some (.agg #[.string ⟨#[]⟩, .string ⟨#[]⟩, .string ⟨#[]⟩]), 3, 48) := by kernel_rfl

def made (n : Nat) : Array Value := madeCells #[.string ⟨#[]⟩, .string ⟨#[]⟩, .string ⟨#[]⟩] (n * 3)
theorem made_size (n : Nat) : (made n).size = n * 3 := size_madeCells _ _
theorem make35 (n : Nat) (hn : n ≤ 1048576) (w : World) : (Instr.makeSlice 35 (.int .i64 n) (.int .i64 n)).run Try.prog w = .ok (.slice (some ⟨w.heap.size, 0, none⟩) n n) (w.alloc (.cells (made n) 38)) := by
  obtain ⟨i, hi, h0, h1, h2⟩ := info_parts info38
  have := run_make w 35 38 i _ Try.underlying35 hi h0 .i64 .i64 n n (by omega) (by omega) (by rw [h2]; omega) (by omega)
  rw [h1] at this
  exact this

theorem made_row (w : World) (n : Nat) : (w.alloc (.cells (made n) 38)).rowIs w.heap.size 38 (n * 3) (fun i => (made n).getD i (.string ⟨#[]⟩)) := by
  have h := World.rowIs_alloc w (made n) 38 (fun i => (made n).getD i (.string ⟨#[]⟩)) (fun i hi => by simp [Array.getD, hi])
  rw [made_size] at h
  exact h

/-- A slice of l elements; where it is nil its capacity is 0. -/
def DomOk (e : Ending) (l : Nat) : Prop := ∃ d c, e = .returned (.slice d l c) ∧ l ≤ c ∧ (d = none → c = 0)

set_option maxHeartbeats 1000000 in
theorem domains15 (a0 a1 a2 : Option Addr) (l c0 c1 c2 : Nat) (w : World) (hl : l ≤ 1048576) (s0 : Strs w a0 l) (s1 : Strs w a1 l) (s2 : Strs w a2 l) :
    Calls Try.prog 15 #[.slice a0 l c0, .slice a1 l c1, .slice a2 l c2] w fun e w' => DomOk e l ∧ Below w.heap.size w w' := by
  cases a0 with
  | none =>
    have hnil := fun (w : World) => Lib.run_eql_slice_nil (P := Try.prog) w 25 9 none l c0 0 0 Try.underlying25
    obtain rfl : l = 0 := by
      rcases Nat.eq_zero_or_pos l with h | h
      · exact h
      · obtain ⟨_, _, _, h, _⟩ := s0 0 h; cases h
    go_enter Try.func15, Try.ntmps15
    go_wp2
    go_ret
    exact ⟨⟨_, _, rfl, Nat.le_refl _, fun _ => rfl⟩, Below.refl _ _⟩
  | some a =>
    have hmk := make35 l hl
    have hnil := fun (w : World) => Lib.run_eql_slice_nil (P := Try.prog) w 25 9 (some a) l c0 0 0 Try.underlying25
    go_enter Try.func15, Try.ntmps15
    go_wp2
    go_loopw [8] (fun i wr => ∃ (k : Nat) (f : Nat → Value), k ≤ l ∧ i = .int .i64 k ∧ Below w.heap.size w wr ∧ wr.rowIs w.heap.size 38 (l * 3) f) (fun i _ => l - (intOf i).toNat)
    case atStart => exact ⟨0, _, Nat.zero_le _, rfl, (Below.refl _ _).alloc (Nat.le_refl _) _, made_row w l⟩
    case round =>
      obtain ⟨k, f, hk, rfl, bel, row⟩ := hrel
      by_cases hlt : k < l
      · obtain ⟨b0, o0, x0, e0, hc0, _⟩ := s0 k hlt
        obtain ⟨b1, o1, x1, rfl, hc1, _⟩ := s1 k hlt
        obtain ⟨b2, o2, x2, rfl, hc2, _⟩ := s2 k hlt
        cases e0
        have r0 := row.cell (i := k * 3) (by omega)
        have r1 := row.cell (i := k * 3 + 1) (by omega)
        have r2 := row.cell (i := k * 3 + 2) (by omega)
        have g0 := row.frozen (k * 3)
        have g1 := row.frozen (k * 3 + 1)
        have g2 := row.frozen (k * 3 + 2)
        have d0 := (bel.cell (p := ⟨b0, o0 + k, none⟩) (World.block_lt_of_cell? w _ hc0)).trans hc0
        have d1 := (bel.cell (p := ⟨b1, o1 + k, none⟩) (World.block_lt_of_cell? w _ hc1)).trans hc1
        have d2 := (bel.cell (p := ⟨b2, o2 + k, none⟩) (World.block_lt_of_cell? w _ hc2)).trans hc2
        have n0 : ¬ b0 = w.heap.size := Nat.ne_of_lt (World.block_lt_of_cell? w _ hc0)
        have n1 : ¬ b1 = w.heap.size := Nat.ne_of_lt (World.block_lt_of_cell? w _ hc1)
        have n2 : ¬ b2 = w.heap.size := Nat.ne_of_lt (World.block_lt_of_cell? w _ hc2)
        have m0 : ¬ w.heap.size = b0 := fun h => n0 h.symm
        have m1 : ¬ w.heap.size = b1 := fun h => n1 h.symm
        have m2 : ¬ w.heap.size = b2 := fun h => n2 h.symm
        go_wp2
        go_region_held3 (fun w' => w'.cell? ⟨b0, o0 + k, none⟩ = some (.string x0) ∧ w'.cell? ⟨b1, o1 + k, none⟩ = some (.string x1) ∧ w'.cell? ⟨b2, o2 + k, none⟩ = some (.string x2)) (go_keep) (fail)
        go_wp2
        go_roundw
        case rel => exact ⟨k + 1, _, by omega, by go_num, ((((bel.setCell (Nat.le_refl _) _).setCell (Nat.le_refl _) _).setCell (Nat.le_refl _) _).drew), ((((row.set _ _).set _ _).set _ _).drew)⟩
        case measure => simp [intOf]; omega
      · go_wp2
        go_ret
        exact ⟨⟨_, _, rfl, Nat.le_refl _, fun h => by cases h⟩, bel⟩

end Go.Proofs.Qxb6618616a
