/- The contract of ZZsetTransaction. -/
import Derived.Test.Qxb6618616aSetTrans
import Derived.WalkKit
import Derived.WalkSpells
import Derived.WalkLawsBesides
import Derived.Deep.RegionHeld3
import Derived.Deep.LoopGhost
import Derived.Deep.OwnRows
import Derived.Deep.QuietTactic
import Derived.BigQuiet
set_option linter.unusedSimpArgs false
set_option linter.unusedVariables false
namespace Go.Proofs.Qxb6618616a
open Go.RowKit

def outK (T : Nat → Bool × ByteArray) (n : Nat) (k : Int) : Int := if isW T n 0 wSnapshot = true then 7 else if 0 < n ∧ (rmTop T n).2.2 = true then 6 else k
def outS (T : Nat → Bool × ByteArray) (n : Nat) (s : Bool) : Bool := if isW T n 0 wSnapshot = true then s else if 0 < n ∧ (rmTop T n).2.2 = true then (rmTop T n).2.1 else s
def outM (T : Nat → Bool × ByteArray) (n : Nat) (m : ByteArray) : ByteArray := if isW T n 0 wSnapshot = true then m else if 0 < n ∧ (rmTop T n).2.2 = true then joinB (rmTop T n).1 else m
def outI (T : Nat → Bool × ByteArray) (n : Nat) (i : ByteArray) : ByteArray := if isW T n 0 wSnapshot = true then i else if 0 < n ∧ (rmTop T n).2.2 = true then withM (joinB (rmTop T n).1) else i

theorem After.st {T : Nat → Bool × ByteArray} {n : Nat} {w : World} {g : Nat} {tx : ByteArray} {k : Int} {s : Bool} {m i : ByteArray} (h : After T n w g tx k s m i) : St w g tx (outK T n k) (outS T n s) (outM T n m) (outI T n i) := by
  unfold After at h
  unfold outK outS outM outI
  by_cases h1 : isW T n 0 wSnapshot = true
  · simp only [if_pos h1] at h ⊢; exact h
  · simp only [if_neg h1] at h ⊢
    by_cases h2 : 0 < n ∧ (rmTop T n).2.2 = true
    · simp only [if_pos h2] at h ⊢; exact h
    · simp only [if_neg h2] at h ⊢; exact h

theorem info47 : (Try.prog.info? 47).map (fun i => (i.zero, i.size, i.bytes)) = some (some (.agg #[.bool false, .string ⟨#[]⟩, .string ⟨#[]⟩, .int .i64 0, .int .i64 0]), 5, 56) := by kernel_rfl
def made47 (n : Nat) : Array Value := madeCells #[.bool false, .string ⟨#[]⟩, .string ⟨#[]⟩, .int .i64 0, .int .i64 0] (n * 5)
theorem make49 (n : Nat) (hn : n ≤ 4194304) (w : World) : (Instr.makeSlice 49 (.int .i64 n) (.int .i64 n)).run Try.prog w = .ok (.slice (some ⟨w.heap.size, 0, none⟩) n n) (w.alloc (.cells (made47 n) 47)) := by
  obtain ⟨i, hi, h0, h1, h2⟩ := info_parts info47
  have := run_make w 49 47 i _ Try.underlying49 hi h0 .i64 .i64 n n (by omega) (by omega) (by rw [h2]; omega) (by omega)
  rw [h1] at this
  exact this
theorem made47_row (w : World) (n : Nat) : (w.alloc (.cells (made47 n) 47)).rowIs w.heap.size 47 (n * 5) (fun i => (made47 n).getD i (.bool false)) := by
  have h := World.rowIs_alloc w (made47 n) 47 (fun i => (made47 n).getD i (.bool false)) (fun i hi => by simp [Array.getD, hi])
  rw [show (made47 n).size = n * 5 from size_madeCells _ _] at h
  exact h

/-- The five parallel slices lie in memory. -/
structure Five (w : World) (b1 b2 b3 b4 b5 m : Nat) (F : Nat → Bool × ByteArray) (U : Nat → ByteArray) (X Y : Nat → Int) : Prop where
  l1 : b1 < w.heap.size
  l2 : b2 < w.heap.size
  l3 : b3 < w.heap.size
  l4 : b4 < w.heap.size
  l5 : b5 < w.heap.size
  c1 : ∀ k, k < m → w.cell? ⟨b1, k, none⟩ = some (.bool (F k).1)
  c2 : ∀ k, k < m → w.cell? ⟨b2, k, none⟩ = some (.string (F k).2)
  c3 : ∀ k, k < m → w.cell? ⟨b3, k, none⟩ = some (.string (U k))
  c4 : ∀ k, k < m → w.cell? ⟨b4, k, none⟩ = some (.int .i64 (X k))
  c5 : ∀ k, k < m → w.cell? ⟨b5, k, none⟩ = some (.int .i64 (Y k))

set_option maxRecDepth 100000 in
set_option maxHeartbeats 1000000 in
theorem zzset12 (F T : Nat → Bool × ByteArray) (U : Nat → ByteArray) (X Y : Nat → Int) (b1 b2 b3 b4 b5 c1 c2 c3 c4 c5 m n : Nat) (k0 : Int) (s0 : Bool) (m0 i1 tx : ByteArray) (w : World) (hm : m ≤ 4194304) (five : Five w b1 b2 b3 b4 b5 m F U X Y)
    (hset : ∀ (b g : Nat) (w : World), Toks w b 0 F m → b < g → St w g tx k0 s0 m0 i1 → Calls Try.prog 22 #[.pointer (some ⟨g, 0, none⟩), .slice (some ⟨b, 0, none⟩) m m] w fun e w' => e = .returned (.tuple #[]) ∧ After T n w' g tx k0 s0 m0 i1 ∧ Below g w w') :
    Calls Try.prog 12 #[.int .i64 k0, .bool s0, .string m0, .string i1, .string tx, .slice (some ⟨b1, 0, none⟩) m c1, .slice (some ⟨b2, 0, none⟩) m c2, .slice (some ⟨b3, 0, none⟩) m c3, .slice (some ⟨b4, 0, none⟩) m c4, .slice (some ⟨b5, 0, none⟩) m c5] w fun e w' =>
      e = .returned (.tuple #[.int .i64 (outK T n k0), .bool (outS T n s0), .string (outM T n m0), .string (outI T n i1), .string tx]) ∧ Below w.heap.size w w' := by
  have hmk := make49 m hm
  have HS : Hid _ := hset
  clear hset
  go_enter Try.func12, Try.ntmps12
  go_wp2
  go_loopg [26, 33] (m + 1) (fun g v i wr => ∃ (k : Nat) (f : Nat → Value), k + g = m + 1 ∧ k ≤ m ∧ i = .int .i64 k ∧ Below w.heap.size w wr ∧ wr.rowIs w.heap.size 47 (m * 5) f ∧ Hid (∀ j, j < k → f (j * 5) = .bool (F j).1 ∧ f (j * 5 + 1) = .string (F j).2))
  case atStart => exact ⟨0, _, by omega, Nat.zero_le _, rfl, (Below.refl _ _).alloc (Nat.le_refl _) _, made47_row w m, fun j hj => absurd hj (by omega)⟩
  case round =>
    obtain ⟨k, f, hg, hk, rfl, bel, row, HF⟩ := hrel
    by_cases hlt : k < m
    · have d1 := (bel.cell (p := ⟨b1, k, none⟩) five.l1).trans (five.c1 k hlt)
      have d2 := (bel.cell (p := ⟨b2, k, none⟩) five.l2).trans (five.c2 k hlt)
      have d3 := (bel.cell (p := ⟨b3, k, none⟩) five.l3).trans (five.c3 k hlt)
      have d4 := (bel.cell (p := ⟨b4, k, none⟩) five.l4).trans (five.c4 k hlt)
      have d5 := (bel.cell (p := ⟨b5, k, none⟩) five.l5).trans (five.c5 k hlt)
      have r0 := row.cell (i := k * 5) (by omega)
      have r1 := row.cell (i := k * 5 + 1) (by omega)
      have r2 := row.cell (i := k * 5 + 2) (by omega)
      have r3 := row.cell (i := k * 5 + 3) (by omega)
      have r4 := row.cell (i := k * 5 + 4) (by omega)
      have g0 := row.frozen (k * 5)
      have g1 := row.frozen (k * 5 + 1)
      have g2 := row.frozen (k * 5 + 2)
      have g3 := row.frozen (k * 5 + 3)
      have g4 := row.frozen (k * 5 + 4)
      have n1 : ¬ b1 = w.heap.size := Nat.ne_of_lt five.l1
      have n2 : ¬ b2 = w.heap.size := Nat.ne_of_lt five.l2
      have n3 : ¬ b3 = w.heap.size := Nat.ne_of_lt five.l3
      have n4 : ¬ b4 = w.heap.size := Nat.ne_of_lt five.l4
      have n5 : ¬ b5 = w.heap.size := Nat.ne_of_lt five.l5
      have p1 : ¬ w.heap.size = b1 := fun h => n1 h.symm
      have p2 : ¬ w.heap.size = b2 := fun h => n2 h.symm
      have p3 : ¬ w.heap.size = b3 := fun h => n3 h.symm
      have p4 : ¬ w.heap.size = b4 := fun h => n4 h.symm
      have p5 : ¬ w.heap.size = b5 := fun h => n5 h.symm
      clear five
      go_wp2
      go_region_held3 (fun w' => w'.cell? ⟨b1, k, none⟩ = some (.bool (F k).1) ∧ w'.cell? ⟨b2, k, none⟩ = some (.string (F k).2) ∧ w'.cell? ⟨b3, k, none⟩ = some (.string (U k)) ∧ w'.cell? ⟨b4, k, none⟩ = some (.int .i64 (X k)) ∧ w'.cell? ⟨b5, k, none⟩ = some (.int .i64 (Y k))) (go_keep) (fail)
      go_wp2
      go_roundg (m - k)
      case measure => omega
      case rel =>
        refine ⟨k + 1, _, by omega, by omega, by go_num, ((((((bel.setCell (Nat.le_refl _) _).setCell (Nat.le_refl _) _).setCell (Nat.le_refl _) _).setCell (Nat.le_refl _) _).setCell (Nat.le_refl _) _).drew), ((((((row.set _ _).set _ _).set _ _).set _ _).set _ _).drew), ?_⟩
        intro j hj
        by_cases hjk : j = k
        · subst hjk
          simp
        · have := HF.out j (by omega)
          have q0 : j * 5 ≠ k * 5 := by omega
          refine ⟨?_, ?_⟩
          · rw [if_neg (by omega), if_neg (by omega), if_neg (by omega), if_neg (by omega), if_neg (by omega)]; exact this.1
          · rw [if_neg (by omega), if_neg (by omega), if_neg (by omega), if_neg (by omega), if_neg (by omega)]; exact this.2
    · obtain rfl : k = m := by omega
      clear five
      go_wp2_with fail
      have lt : w.heap.size < wr.heap.size := row.lt
      have rowA := row.alloc (.cells #[.string tx, .int .i64 0, .int .i64 k0, .bool false, .string ⟨#[]⟩, .int .i64 0, .string ⟨#[]⟩, .bool false, .bool false, .string m0, .bool s0, .string i1, .bool false, .bool false, .bool false, .bool false, .bool false] 57)
      have belA := bel.alloc bel.size (.cells #[.string tx, .int .i64 0, .int .i64 k0, .bool false, .string ⟨#[]⟩, .int .i64 0, .string ⟨#[]⟩, .bool false, .bool false, .string m0, .bool s0, .string i1, .bool false, .bool false, .bool false, .bool false, .bool false] 57)
      have st : St (wr.alloc (.cells #[.string tx, .int .i64 0, .int .i64 k0, .bool false, .string ⟨#[]⟩, .int .i64 0, .string ⟨#[]⟩, .bool false, .bool false, .string m0, .bool s0, .string i1, .bool false, .bool false, .bool false, .bool false, .bool false] 57)) wr.heap.size tx k0 s0 m0 i1 :=
        ⟨by simp, by go_simp, by go_simp, by go_simp, by go_simp, by go_simp, by go_simp, by go_simp, by go_simp, by go_simp⟩
      have tk : Toks (wr.alloc (.cells #[.string tx, .int .i64 0, .int .i64 k0, .bool false, .string ⟨#[]⟩, .int .i64 0, .string ⟨#[]⟩, .bool false, .bool false, .string m0, .bool s0, .string i1, .bool false, .bool false, .bool false, .bool false, .bool false] 57)) w.heap.size 0 F k := fun j hj => by
        rw [Nat.zero_add]
        rw [rowA.cell (i := j * 5) (by omega), rowA.cell (i := j * 5 + 1) (by omega), (HF.out j hj).1, (HF.out j hj).2]
        exact ⟨rfl, rfl⟩
      refine (HS.out w.heap.size wr.heap.size _ tk lt st).mono ?_
      rintro e w2 ⟨rfl, af, bg⟩
      have st2 := af.st
      have bel2 := belA.trans (bg.mono bel.size)
      clear tk st af bg belA rowA row HF HS hmk bel lt
      obtain ⟨z, a0, a2, a9, a10, a11, _, _, _, _⟩ := st2
      go_wp2
      go_quiet (fail)
      go_wp2
      refine bodyPost_ret (v := .tuple #[.int .i64 (outK T n k0), .bool (outS T n s0), .string (outM T n m0), .string (outI T n i1), .string tx]) (by simp [results, Try.results12, go_sem]) rfl ⟨rfl, ?_⟩
      exact below_drewN bel2 _

end Go.Proofs.Qxb6618616a
