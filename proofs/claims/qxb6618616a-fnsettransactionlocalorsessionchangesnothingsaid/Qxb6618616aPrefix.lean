/- The contract of sqb1Prefix. -/
import Derived.Test.Qxb6618616aProg
import Derived.WalkKit
import Derived.WalkSpells
import Derived.WalkLawsBesides
import Derived.Deep.LoopGhost
import Derived.Deep.OwnRows
set_option linter.unusedSimpArgs false
set_option linter.unusedVariables false
namespace Go.Proofs.Qxb6618616a
open Go.RowKit

def BoolsF (w : World) (a0 : Option Addr) (n : Nat) (B : Nat → Bool) : Prop := ∀ i, i < n → ∃ b off, a0 = some ⟨b, off, none⟩ ∧ w.cell? ⟨b, off + i, none⟩ = some (.bool (B i))
def StrsF (w : World) (a0 : Option Addr) (n : Nat) (S : Nat → ByteArray) : Prop := ∀ i, i < n → ∃ b off, a0 = some ⟨b, off, none⟩ ∧ w.cell? ⟨b, off + i, none⟩ = some (.string (S i))
def IntsF (w : World) (a0 : Option Addr) (n : Nat) (X : Nat → Int) : Prop := ∀ i, i < n → ∃ b off, a0 = some ⟨b, off, none⟩ ∧ w.cell? ⟨b, off + i, none⟩ = some (.int .i64 (X i))

theorem info4 : (Try.prog.info? 4).map (fun i => (i.zero, i.size, i.bytes)) = some (some (.bool false), 1, 1) := by kernel_rfl
theorem info9b : (Try.prog.info? 9).map (fun i => (i.zero, i.size, i.bytes)) = some (some (.string ⟨#[]⟩), 1, 16) := by kernel_rfl
theorem info3 : (Try.prog.info? 3).map (fun i => (i.zero, i.size, i.bytes)) = some (some (.int .i64 0), 1, 8) := by kernel_rfl
def mk (z : Value) (m : Nat) : Array Value := madeCells #[z] m
theorem mk_rowN (w : World) (z : Value) (m : Nat) (t : TypeId) (N : Nat) (h : w.heap.size = N) : (w.alloc (.cells (mk z m) t)).rowIs N t m (fun _ => z) := by subst h; exact World.rowIs_made w z m t
theorem make24 (p n : Nat) (h : p + n ≤ 4194304) (w : World) : (Instr.makeSlice 24 (.int .i64 ((p : Int) + (n : Int))) (.int .i64 ((p : Int) + (n : Int)))).run Try.prog w = .ok (.slice (some ⟨w.heap.size, 0, none⟩) (p + n) (p + n)) (w.alloc (.cells (mk (.bool false) (p + n)) 4)) := by
  obtain ⟨i, hi, h0, h1, h2⟩ := info_parts info4
  have := run_make w 24 4 i _ Try.underlying24 hi h0 .i64 .i64 ((p : Int) + (n : Int)) ((p : Int) + (n : Int)) (by omega) (by omega) (by rw [h2]; omega) (by omega)
  rw [h1, show ((p : Int) + (n : Int)).toNat = p + n by omega, Nat.mul_one] at this
  exact this
theorem make25 (p n : Nat) (h : p + n ≤ 4194304) (w : World) : (Instr.makeSlice 25 (.int .i64 ((p : Int) + (n : Int))) (.int .i64 ((p : Int) + (n : Int)))).run Try.prog w = .ok (.slice (some ⟨w.heap.size, 0, none⟩) (p + n) (p + n)) (w.alloc (.cells (mk (.string ⟨#[]⟩) (p + n)) 9)) := by
  obtain ⟨i, hi, h0, h1, h2⟩ := info_parts info9b
  have := run_make w 25 9 i _ Try.underlying25 hi h0 .i64 .i64 ((p : Int) + (n : Int)) ((p : Int) + (n : Int)) (by omega) (by omega) (by rw [h2]; omega) (by omega)
  rw [h1, show ((p : Int) + (n : Int)).toNat = p + n by omega, Nat.mul_one] at this
  exact this
theorem make26 (p n : Nat) (h : p + n ≤ 4194304) (w : World) : (Instr.makeSlice 26 (.int .i64 ((p : Int) + (n : Int))) (.int .i64 ((p : Int) + (n : Int)))).run Try.prog w = .ok (.slice (some ⟨w.heap.size, 0, none⟩) (p + n) (p + n)) (w.alloc (.cells (mk (.int .i64 0) (p + n)) 3)) := by
  obtain ⟨i, hi, h0, h1, h2⟩ := info_parts info3
  have := run_make w 26 3 i _ Try.underlying26 hi h0 .i64 .i64 ((p : Int) + (n : Int)) ((p : Int) + (n : Int)) (by omega) (by omega) (by rw [h2]; omega) (by omega)
  rw [h1, show ((p : Int) + (n : Int)).toNat = p + n by omega, Nat.mul_one] at this
  exact this

set_option maxRecDepth 100000 in
set_option maxHeartbeats 4000000 in
theorem prefix11 (Pt : Nat → ByteArray) (B : Nat → Bool) (S U : Nat → ByteArray) (X Y : Nat → Int) (pb p pc n c1 c2 c3 c4 c5 : Nat) (a1 a2 a3 a4 a5 : Option Addr) (w : World) (hm : p + n ≤ 4194304)
    (hp : ∀ k, k < p → w.cell? ⟨pb, k, none⟩ = some (.string (Pt k))) (hB : BoolsF w a1 n B) (hS : StrsF w a2 n S) (hU : StrsF w a3 n U) (hX : IntsF w a4 n X) (hY : IntsF w a5 n Y) :
    Calls Try.prog 11 #[.slice (some ⟨pb, 0, none⟩) p pc, .slice a1 n c1, .slice a2 n c2, .slice a3 n c3, .slice a4 n c4, .slice a5 n c5] w fun e w' =>
      e = .returned (.tuple #[.slice (some ⟨w.heap.size, 0, none⟩) (p + n) (p + n), .slice (some ⟨w.heap.size + 1, 0, none⟩) (p + n) (p + n), .slice (some ⟨w.heap.size + 1 + 1, 0, none⟩) (p + n) (p + n), .slice (some ⟨w.heap.size + 1 + 1 + 1, 0, none⟩) (p + n) (p + n), .slice (some ⟨w.heap.size + 1 + 1 + 1 + 1, 0, none⟩) (p + n) (p + n)]) ∧
      (∃ f1 f2 f3 f4 f5, (w'.rowIs (w.heap.size) 4 (p + n) f1 ∧ w'.rowIs (w.heap.size + 1) 9 (p + n) f2 ∧ w'.rowIs (w.heap.size + 1 + 1) 9 (p + n) f3 ∧ w'.rowIs (w.heap.size + 1 + 1 + 1) 3 (p + n) f4 ∧ w'.rowIs (w.heap.size + 1 + 1 + 1 + 1) 3 (p + n) f5) ∧ Hid ((∀ j, ∃ s, f3 j = .string s) ∧ (∀ j, ∃ x, f4 j = .int .i64 x) ∧ (∀ j, ∃ x, f5 j = .int .i64 x)) ∧ Hid ((∀ j, j < p → f1 j = .bool true ∧ f2 j = .string (Pt j)) ∧ (∀ j, j < n → f1 (p + j) = .bool (B j) ∧ f2 (p + j) = .string (S j)))) ∧ Below w.heap.size w w' := by
  have hmk1 := make24 p n hm
  have hmk2 := make25 p n hm
  have hmk3 := make26 p n hm
  go_enter Try.func11, Try.ntmps11
  go_wp2
  go_loopg [23] (p + 1) (fun g i wr => ∃ (k : Nat) (f1 f2 : Nat → Value), k + g = p + 1 ∧ k ≤ p ∧ i = .int .i64 k ∧ Below w.heap.size w wr ∧ (wr.rowIs (w.heap.size) 4 (p + n) f1 ∧ wr.rowIs (w.heap.size + 1) 9 (p + n) f2 ∧ wr.rowIs (w.heap.size + 1 + 1) 9 (p + n) (fun _ => .string ⟨#[]⟩) ∧ wr.rowIs (w.heap.size + 1 + 1 + 1) 3 (p + n) (fun _ => .int .i64 0) ∧ wr.rowIs (w.heap.size + 1 + 1 + 1 + 1) 3 (p + n) (fun _ => .int .i64 0)) ∧ Hid (∀ j, j < k → f1 j = .bool true ∧ f2 j = .string (Pt j)))
  case atStart =>
    refine ⟨0, _, _, by omega, Nat.zero_le _, rfl, ?_, ⟨((((mk_rowN w _ _ _ _ rfl).alloc _).alloc _).alloc _).alloc _, (((mk_rowN (w.alloc _) _ _ _ _ (by simp)).alloc _).alloc _).alloc _, ((mk_rowN ((w.alloc _).alloc _) _ _ _ _ (by simp)).alloc _).alloc _, (mk_rowN (((w.alloc _).alloc _).alloc _) _ _ _ _ (by simp)).alloc _, mk_rowN ((((w.alloc _).alloc _).alloc _).alloc _) _ _ _ _ (by simp)⟩, fun j hj => absurd hj (by omega)⟩
    exact (((((Below.refl w.heap.size w).alloc (Nat.le_refl _) _).alloc (by simp) _).alloc (by simp; omega) _).alloc (by simp; omega) _).alloc (by simp; omega) _
  case round =>
    clear hmk1 hmk2 hmk3
    obtain ⟨k, f1, f2, hg, hk, rfl, bel, ⟨row1, row2, row3, row4, row5⟩, HF⟩ := hrel
    by_cases hlt : k < p
    · have hpk := hp k hlt
      have u1 : pb < w.heap.size := World.block_lt_of_cell? w _ hpk
      have d1 := (bel.cell (p := ⟨pb, k, none⟩) u1).trans hpk
      have n1 : ¬ pb = w.heap.size := by omega
      have n2 : ¬ w.heap.size = pb := by omega
      have r1 := row1.cell (i := k) (by omega)
      have g1 := row1.frozen (k)
      have r2 := row2.cell (i := k) (by omega)
      have g2 := row2.frozen (k)
      go_wp2
      go_roundg (p - k)
      case measure => omega
      case rel =>
        refine ⟨k + 1, _, _, by omega, by omega, by go_num, (bel.setCell (p := ⟨w.heap.size, k, none⟩) (Nat.le_refl _) _).setCell (p := ⟨w.heap.size + 1, k, none⟩) (by simp) _, ⟨(row1.set _ _).setOther (by simp) _, (row2.setOther (by simp) _).set _ _, (row3.setOther (by simp; omega) _).setOther (by simp) _, (row4.setOther (by simp; omega) _).setOther (by simp; omega) _, (row5.setOther (by simp; omega) _).setOther (by simp; omega) _⟩, ?_⟩
        intro j hj
        by_cases hjk : j = k
        · subst hjk
          simp
        · have := HF.out j (by omega)
          rw [if_neg hjk, if_neg hjk]
          exact this
    · obtain rfl : k = p := by omega
      clear hp
      go_wp2
      go_loopg [24, 25] (n + 1) (fun g i _ wr => ∃ (q : Nat) (f1 f2 f3 f4 f5 : Nat → Value), q + g = n + 1 ∧ q ≤ n ∧ i = .int .i64 q ∧ Below w.heap.size w wr ∧ (wr.rowIs (w.heap.size) 4 (k + n) f1 ∧ wr.rowIs (w.heap.size + 1) 9 (k + n) f2 ∧ wr.rowIs (w.heap.size + 1 + 1) 9 (k + n) f3 ∧ wr.rowIs (w.heap.size + 1 + 1 + 1) 3 (k + n) f4 ∧ wr.rowIs (w.heap.size + 1 + 1 + 1 + 1) 3 (k + n) f5) ∧ Hid ((∀ j, ∃ s, f3 j = .string s) ∧ (∀ j, ∃ x, f4 j = .int .i64 x) ∧ (∀ j, ∃ x, f5 j = .int .i64 x)) ∧ Hid ((∀ j, j < k → f1 j = .bool true ∧ f2 j = .string (Pt j)) ∧ (∀ j, j < q → f1 (k + j) = .bool (B j) ∧ f2 (k + j) = .string (S j))))
      case atStart => exact ⟨0, _, _, _, _, _, by omega, Nat.zero_le _, rfl, bel, ⟨row1, row2, row3, row4, row5⟩, ⟨fun _ => ⟨_, rfl⟩, fun _ => ⟨_, rfl⟩, fun _ => ⟨_, rfl⟩⟩, HF.out, fun j hj => absurd hj (by omega)⟩
      case round =>
        clear row1 row2 row3 row4 row5 HF bel
        obtain ⟨q, f1, f2, f3, f4, f5, hg', hq, rfl, bel, ⟨row1, row2, row3, row4, row5⟩, TY, HF⟩ := hrel
        by_cases hlq : q < n
        · obtain ⟨x1, o1, rfl, hc1⟩ := hB q hlq
          obtain ⟨x2, o2, rfl, hc2⟩ := hS q hlq
          obtain ⟨x3, o3, rfl, hc3⟩ := hU q hlq
          obtain ⟨x4, o4, rfl, hc4⟩ := hX q hlq
          obtain ⟨x5, o5, rfl, hc5⟩ := hY q hlq
          clear hB hS hU hX hY
          have u1 : x1 < w.heap.size := World.block_lt_of_cell? w _ hc1
          have d1 := (bel.cell (p := ⟨x1, o1 + q, none⟩) u1).trans hc1
          have n10 : ¬ x1 = w.heap.size := by omega
          have m10 : ¬ w.heap.size = x1 := by omega
          have n11 : ¬ x1 = w.heap.size + 1 := by omega
          have m11 : ¬ w.heap.size + 1 = x1 := by omega
          have n12 : ¬ x1 = w.heap.size + 1 + 1 := by omega
          have m12 : ¬ w.heap.size + 1 + 1 = x1 := by omega
          have n13 : ¬ x1 = w.heap.size + 1 + 1 + 1 := by omega
          have m13 : ¬ w.heap.size + 1 + 1 + 1 = x1 := by omega
          have n14 : ¬ x1 = w.heap.size + 1 + 1 + 1 + 1 := by omega
          have m14 : ¬ w.heap.size + 1 + 1 + 1 + 1 = x1 := by omega
          have u2 : x2 < w.heap.size := World.block_lt_of_cell? w _ hc2
          have d2 := (bel.cell (p := ⟨x2, o2 + q, none⟩) u2).trans hc2
          have n20 : ¬ x2 = w.heap.size := by omega
          have m20 : ¬ w.heap.size = x2 := by omega
          have n21 : ¬ x2 = w.heap.size + 1 := by omega
          have m21 : ¬ w.heap.size + 1 = x2 := by omega
          have n22 : ¬ x2 = w.heap.size + 1 + 1 := by omega
          have m22 : ¬ w.heap.size + 1 + 1 = x2 := by omega
          have n23 : ¬ x2 = w.heap.size + 1 + 1 + 1 := by omega
          have m23 : ¬ w.heap.size + 1 + 1 + 1 = x2 := by omega
          have n24 : ¬ x2 = w.heap.size + 1 + 1 + 1 + 1 := by omega
          have m24 : ¬ w.heap.size + 1 + 1 + 1 + 1 = x2 := by omega
          have u3 : x3 < w.heap.size := World.block_lt_of_cell? w _ hc3
          have d3 := (bel.cell (p := ⟨x3, o3 + q, none⟩) u3).trans hc3
          have n30 : ¬ x3 = w.heap.size := by omega
          have m30 : ¬ w.heap.size = x3 := by omega
          have n31 : ¬ x3 = w.heap.size + 1 := by omega
          have m31 : ¬ w.heap.size + 1 = x3 := by omega
          have n32 : ¬ x3 = w.heap.size + 1 + 1 := by omega
          have m32 : ¬ w.heap.size + 1 + 1 = x3 := by omega
          have n33 : ¬ x3 = w.heap.size + 1 + 1 + 1 := by omega
          have m33 : ¬ w.heap.size + 1 + 1 + 1 = x3 := by omega
          have n34 : ¬ x3 = w.heap.size + 1 + 1 + 1 + 1 := by omega
          have m34 : ¬ w.heap.size + 1 + 1 + 1 + 1 = x3 := by omega
          have u4 : x4 < w.heap.size := World.block_lt_of_cell? w _ hc4
          have d4 := (bel.cell (p := ⟨x4, o4 + q, none⟩) u4).trans hc4
          have n40 : ¬ x4 = w.heap.size := by omega
          have m40 : ¬ w.heap.size = x4 := by omega
          have n41 : ¬ x4 = w.heap.size + 1 := by omega
          have m41 : ¬ w.heap.size + 1 = x4 := by omega
          have n42 : ¬ x4 = w.heap.size + 1 + 1 := by omega
          have m42 : ¬ w.heap.size + 1 + 1 = x4 := by omega
          have n43 : ¬ x4 = w.heap.size + 1 + 1 + 1 := by omega
          have m43 : ¬ w.heap.size + 1 + 1 + 1 = x4 := by omega
          have n44 : ¬ x4 = w.heap.size + 1 + 1 + 1 + 1 := by omega
          have m44 : ¬ w.heap.size + 1 + 1 + 1 + 1 = x4 := by omega
          have u5 : x5 < w.heap.size := World.block_lt_of_cell? w _ hc5
          have d5 := (bel.cell (p := ⟨x5, o5 + q, none⟩) u5).trans hc5
          have n50 : ¬ x5 = w.heap.size := by omega
          have m50 : ¬ w.heap.size = x5 := by omega
          have n51 : ¬ x5 = w.heap.size + 1 := by omega
          have m51 : ¬ w.heap.size + 1 = x5 := by omega
          have n52 : ¬ x5 = w.heap.size + 1 + 1 := by omega
          have m52 : ¬ w.heap.size + 1 + 1 = x5 := by omega
          have n53 : ¬ x5 = w.heap.size + 1 + 1 + 1 := by omega
          have m53 : ¬ w.heap.size + 1 + 1 + 1 = x5 := by omega
          have n54 : ¬ x5 = w.heap.size + 1 + 1 + 1 + 1 := by omega
          have m54 : ¬ w.heap.size + 1 + 1 + 1 + 1 = x5 := by omega
          have r1 := row1.cell (i := k + q) (by omega)
          have g1 := row1.frozen (k + q)
          have r2 := row2.cell (i := k + q) (by omega)
          have g2 := row2.frozen (k + q)
          have r3 := row3.cell (i := k + q) (by omega)
          have g3 := row3.frozen (k + q)
          have r4 := row4.cell (i := k + q) (by omega)
          have g4 := row4.frozen (k + q)
          have r5 := row5.cell (i := k + q) (by omega)
          have g5 := row5.frozen (k + q)
          go_wp2
          go_roundg (n - q)
          case measure => omega
          case rel =>
            refine ⟨q + 1, _, _, _, _, _, by omega, by omega, by go_num, (((((bel.setCell (p := ⟨w.heap.size, k + q, none⟩) (Nat.le_refl _) _).setCell (p := ⟨w.heap.size + 1, k + q, none⟩) (by simp <;> omega) _).setCell (p := ⟨w.heap.size + 1 + 1, k + q, none⟩) (by simp <;> omega) _).setCell (p := ⟨w.heap.size + 1 + 1 + 1, k + q, none⟩) (by simp <;> omega) _).setCell (p := ⟨w.heap.size + 1 + 1 + 1 + 1, k + q, none⟩) (by simp <;> omega) _), ⟨(((((row1.set _ _).setOther (by simp <;> omega) _).setOther (by simp <;> omega) _).setOther (by simp <;> omega) _).setOther (by simp <;> omega) _), (((((row2.setOther (by simp <;> omega) _).set _ _).setOther (by simp <;> omega) _).setOther (by simp <;> omega) _).setOther (by simp <;> omega) _), (((((row3.setOther (by simp <;> omega) _).setOther (by simp <;> omega) _).set _ _).setOther (by simp <;> omega) _).setOther (by simp <;> omega) _), (((((row4.setOther (by simp <;> omega) _).setOther (by simp <;> omega) _).setOther (by simp <;> omega) _).set _ _).setOther (by simp <;> omega) _), (((((row5.setOther (by simp <;> omega) _).setOther (by simp <;> omega) _).setOther (by simp <;> omega) _).setOther (by simp <;> omega) _).set _ _)⟩, ?_, ?_⟩
            · refine ⟨fun j => ?_, fun j => ?_, fun j => ?_⟩
              · by_cases h : j = k + q
                · exact ⟨_, if_pos h⟩
                · obtain ⟨s, hs⟩ := TY.out.1 j
                  exact ⟨s, (if_neg h).trans hs⟩
              · by_cases h : j = k + q
                · exact ⟨_, if_pos h⟩
                · obtain ⟨s, hs⟩ := TY.out.2.1 j
                  exact ⟨s, (if_neg h).trans hs⟩
              · by_cases h : j = k + q
                · exact ⟨_, if_pos h⟩
                · obtain ⟨s, hs⟩ := TY.out.2.2 j
                  exact ⟨s, (if_neg h).trans hs⟩
            · refine ⟨fun j hj => ?_, fun j hj => ?_⟩
              · have := HF.out.1 j hj
                exact ⟨(if_neg (by omega)).trans this.1, (if_neg (by omega)).trans this.2⟩
              · by_cases h : j = q
                · exact ⟨(if_pos (by omega)).trans (by rw [h]), (if_pos (by omega)).trans (by rw [h])⟩
                · have := HF.out.2 j (by omega)
                  exact ⟨(if_neg (by omega)).trans this.1, (if_neg (by omega)).trans this.2⟩
        · obtain rfl : q = n := by omega
          go_wp2
          exact bodyPost_ret (v := .tuple #[.slice (some ⟨w.heap.size, 0, none⟩) (k + q) (k + q), .slice (some ⟨w.heap.size + 1, 0, none⟩) (k + q) (k + q), .slice (some ⟨w.heap.size + 1 + 1, 0, none⟩) (k + q) (k + q), .slice (some ⟨w.heap.size + 1 + 1 + 1, 0, none⟩) (k + q) (k + q), .slice (some ⟨w.heap.size + 1 + 1 + 1 + 1, 0, none⟩) (k + q) (k + q)]) (by simp [results, Try.results11, go_sem]) rfl ⟨rfl, ⟨f1, f2, f3, f4, f5, ⟨row1, row2, row3, row4, row5⟩, TY, HF⟩, bel⟩

end Go.Proofs.Qxb6618616a
