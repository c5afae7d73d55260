/- What sqb1Prefix lays, as ZZsetTransaction reads it; both together: one statement read. -/
import Derived.Test.Qxb6618616aZZset
import Derived.Test.Qxb6618616aPrefix
import Derived.Test.Qxb6618616aSizes2
import Derived.WalkKit
import Derived.WalkSpells
set_option linter.unusedSimpArgs false
set_option linter.unusedVariables false
namespace Go.Proofs.Qxb6618616a
open Go.RowKit

/-- The words of pt, then the tokens given. -/
def Fp (p : Nat) (Pt : Nat → ByteArray) (B : Nat → Bool) (S : Nat → ByteArray) (k : Nat) : Bool × ByteArray := if k < p then (true, Pt k) else (B (k - p), S (k - p))

theorem Fp_tail (p : Nat) (Pt : Nat → ByteArray) (B : Nat → Bool) (S : Nat → ByteArray) (k : Nat) : Fp p Pt B S (k + p) = (B k, S k) := by
  unfold Fp
  rw [if_neg (by omega), show k + p - p = k by omega]
theorem Fp_head {p : Nat} (Pt : Nat → ByteArray) (B : Nat → Bool) (S : Nat → ByteArray) {k : Nat} (h : k < p) : Fp p Pt B S k = (true, Pt k) := by
  unfold Fp
  rw [if_pos h]

theorem Five.step {w w' : World} {b1 b2 b3 b4 b5 m : Nat} {F : Nat → Bool × ByteArray} {U : Nat → ByteArray} {X Y : Nat → Int} (h : Five w b1 b2 b3 b4 b5 m F U X Y) (hb : Below w.heap.size w w') : Five w' b1 b2 b3 b4 b5 m F U X Y where
  l1 := Nat.lt_of_lt_of_le h.l1 hb.size
  l2 := Nat.lt_of_lt_of_le h.l2 hb.size
  l3 := Nat.lt_of_lt_of_le h.l3 hb.size
  l4 := Nat.lt_of_lt_of_le h.l4 hb.size
  l5 := Nat.lt_of_lt_of_le h.l5 hb.size
  c1 := fun k hk => (hb.cell (p := ⟨b1, k, none⟩) h.l1).trans (h.c1 k hk)
  c2 := fun k hk => (hb.cell (p := ⟨b2, k, none⟩) h.l2).trans (h.c2 k hk)
  c3 := fun k hk => (hb.cell (p := ⟨b3, k, none⟩) h.l3).trans (h.c3 k hk)
  c4 := fun k hk => (hb.cell (p := ⟨b4, k, none⟩) h.l4).trans (h.c4 k hk)
  c5 := fun k hk => (hb.cell (p := ⟨b5, k, none⟩) h.l5).trans (h.c5 k hk)

theorem BoolsF.step {w w' : World} {a0 : Option Addr} {n : Nat} {B : Nat → Bool} (h : BoolsF w a0 n B) (hb : Below w.heap.size w w') : BoolsF w' a0 n B := fun i hi => by
  obtain ⟨b, off, e, hc⟩ := h i hi
  exact ⟨b, off, e, (hb.cell (p := ⟨b, off + i, none⟩) (World.block_lt_of_cell? w _ hc)).trans hc⟩
theorem StrsF.step {w w' : World} {a0 : Option Addr} {n : Nat} {B : Nat → ByteArray} (h : StrsF w a0 n B) (hb : Below w.heap.size w w') : StrsF w' a0 n B := fun i hi => by
  obtain ⟨b, off, e, hc⟩ := h i hi
  exact ⟨b, off, e, (hb.cell (p := ⟨b, off + i, none⟩) (World.block_lt_of_cell? w _ hc)).trans hc⟩
theorem IntsF.step {w w' : World} {a0 : Option Addr} {n : Nat} {B : Nat → Int} (h : IntsF w a0 n B) (hb : Below w.heap.size w w') : IntsF w' a0 n B := fun i hi => by
  obtain ⟨b, off, e, hc⟩ := h i hi
  exact ⟨b, off, e, (hb.cell (p := ⟨b, off + i, none⟩) (World.block_lt_of_cell? w _ hc)).trans hc⟩

/-- All that the five argument slices hold. -/
structure Args (w : World) (a1 a2 a3 a4 a5 : Option Addr) (n : Nat) (B : Nat → Bool) (S U : Nat → ByteArray) (X Y : Nat → Int) : Prop where
  b : BoolsF w a1 n B
  s : StrsF w a2 n S
  u : StrsF w a3 n U
  x : IntsF w a4 n X
  y : IntsF w a5 n Y
theorem Args.step {w w' : World} {a1 a2 a3 a4 a5 : Option Addr} {n : Nat} {B : Nat → Bool} {S U : Nat → ByteArray} {X Y : Nat → Int} (h : Args w a1 a2 a3 a4 a5 n B S U X Y) (hb : Below w.heap.size w w') : Args w' a1 a2 a3 a4 a5 n B S U X Y :=
  ⟨h.b.step hb, h.s.step hb, h.u.step hb, h.x.step hb, h.y.step hb⟩

theorem prefixFive (Pt : Nat → ByteArray) (B : Nat → Bool) (S U : Nat → ByteArray) (X Y : Nat → Int) (pb p pc n c1 c2 c3 c4 c5 : Nat) (a1 a2 a3 a4 a5 : Option Addr) (w : World) (hm : p + n ≤ 4194304)
    (hp : ∀ k, k < p → w.cell? ⟨pb, k, none⟩ = some (.string (Pt k))) (h : Args w a1 a2 a3 a4 a5 n B S U X Y) :
    Calls Try.prog 11 #[.slice (some ⟨pb, 0, none⟩) p pc, .slice a1 n c1, .slice a2 n c2, .slice a3 n c3, .slice a4 n c4, .slice a5 n c5] w fun e w' =>
      e = .returned (.tuple #[.slice (some ⟨w.heap.size, 0, none⟩) (p + n) (p + n), .slice (some ⟨w.heap.size + 1, 0, none⟩) (p + n) (p + n), .slice (some ⟨w.heap.size + 1 + 1, 0, none⟩) (p + n) (p + n), .slice (some ⟨w.heap.size + 1 + 1 + 1, 0, none⟩) (p + n) (p + n), .slice (some ⟨w.heap.size + 1 + 1 + 1 + 1, 0, none⟩) (p + n) (p + n)]) ∧
      (∃ U' X' Y', Five w' w.heap.size (w.heap.size + 1) (w.heap.size + 1 + 1) (w.heap.size + 1 + 1 + 1) (w.heap.size + 1 + 1 + 1 + 1) (p + n) (Fp p Pt B S) U' X' Y') ∧ Below w.heap.size w w' := by
  refine (prefix11 Pt B S U X Y pb p pc n c1 c2 c3 c4 c5 a1 a2 a3 a4 a5 w hm hp h.b h.s h.u h.x h.y).mono ?_
  rintro e w' ⟨he, ⟨f1, f2, f3, f4, f5, ⟨r1, r2, r3, r4, r5⟩, TY, HF⟩, bel⟩
  refine ⟨he, ⟨fun k => Classical.choose (TY.out.1 k), fun k => Classical.choose (TY.out.2.1 k), fun k => Classical.choose (TY.out.2.2 k), ?_⟩, bel⟩
  have hF : ∀ k, k < p + n → f1 k = .bool (Fp p Pt B S k).1 ∧ f2 k = .string (Fp p Pt B S k).2 := by
    intro k hk
    by_cases hkp : k < p
    · rw [Fp_head Pt B S hkp]; exact HF.out.1 k hkp
    · obtain ⟨j, rfl⟩ : ∃ j, k = p + j := ⟨k - p, by omega⟩
      have e : Fp p Pt B S (p + j) = (B j, S j) := by rw [Nat.add_comm]; exact Fp_tail p Pt B S j
      rw [e]; exact HF.out.2 j (by omega)
  exact {
    l1 := r1.lt
    l2 := r2.lt
    l3 := r3.lt
    l4 := r4.lt
    l5 := r5.lt
    c1 := fun k hk => by rw [r1.cell hk, (hF k hk).1]
    c2 := fun k hk => by rw [r2.cell hk, (hF k hk).2]
    c3 := fun k hk => (r3.cell hk).trans (congrArg some (Classical.choose_spec (TY.out.1 k)))
    c4 := fun k hk => (r4.cell hk).trans (congrArg some (Classical.choose_spec (TY.out.2.1 k)))
    c5 := fun k hk => (r5.cell hk).trans (congrArg some (Classical.choose_spec (TY.out.2.2 k))) }

theorem out_snap {T : Nat → Bool × ByteArray} {n : Nat} (h : isW T n 0 wSnapshot = true) (k : Int) (s : Bool) (m i : ByteArray) : outK T n k = 7 ∧ outS T n s = s ∧ outM T n m = m ∧ outI T n i = i := by
  simp only [outK, outS, outM, outI, if_pos h, and_self]
theorem out_zero (T : Nat → Bool × ByteArray) (k : Int) (s : Bool) (m i : ByteArray) : outK T 0 k = k ∧ outS T 0 s = s ∧ outM T 0 m = m ∧ outI T 0 i = i := by
  have h : ¬ isW T 0 0 wSnapshot = true := by simp [isW]
  have h2 : ¬ (0 < 0 ∧ (rmTop T 0).2.2 = true) := by omega
  simp only [outK, outS, outM, outI, if_neg h, if_neg h2, and_self]

end Go.Proofs.Qxb6618616a
