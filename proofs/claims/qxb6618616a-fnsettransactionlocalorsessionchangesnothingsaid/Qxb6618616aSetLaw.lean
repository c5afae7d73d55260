/- The walk of FnSetTransactionLocalOrSessionChangesNothing. -/
import Derived.Test.Qxb6618616aTwo
import Derived.WalkKit
import Derived.WalkSpells
import Derived.WalkLawsBesides
import Derived.ArgAppend
import Derived.Deep.DeepCutAuto
set_option linter.unusedSimpArgs false
set_option linter.unusedVariables false
namespace Go.Proofs.Qxb6618616a
open Go.RowKit

def bSet : ByteArray := ⟨#[115, 101, 116]⟩
def bTrans : ByteArray := ⟨#[116, 114, 97, 110, 115, 97, 99, 116, 105, 111, 110]⟩
def bSnap : ByteArray := ⟨#[115, 110, 97, 112, 115, 104, 111, 116]⟩
theorem lTrans : bTrans.toList = wTransaction := by rw [ByteArray.toList_eq]; rfl
theorem lSnap : bSnap.toList = wSnapshot := by rw [ByteArray.toList_eq]; rfl
/-- SET TRANSACTION, SNAPSHOT behind it where a third word is asked for. -/
def ptP (k : Nat) : ByteArray := if k = 0 then bSet else if k = 1 then bTrans else bSnap
/-- SET, the scope, TRANSACTION, SNAPSHOT behind it where a fourth word is asked for. -/
def ptS (sc : ByteArray) (k : Nat) : ByteArray := if k = 0 then bSet else if k = 1 then sc else if k = 2 then bTrans else bSnap

/-- What setTransaction is owed at the tokens F, m of them; T: those behind TRANSACTION, n of them. -/
def Sets (F T : Nat → Bool × ByteArray) (m n : Nat) (tx : ByteArray) (k0 : Int) (s0 : Bool) (m0 i1 : ByteArray) : Prop :=
  ∀ (b g : Nat) (w : World), Toks w b 0 F m → b < g → St w g tx k0 s0 m0 i1 → Calls Try.prog 22 #[.pointer (some ⟨g, 0, none⟩), .slice (some ⟨b, 0, none⟩) m m] w fun e w' => e = .returned (.tuple #[]) ∧ After T n w' g tx k0 s0 m0 i1 ∧ Below g w w'

theorem isW_at {F : Nat → Bool × ByteArray} {m k : Nat} {x : ByteArray} {l : List UInt8} (hk : k < m) (hF : F k = (true, x)) : isW F m k l = (x.toList == l) := by
  unfold isW
  rw [hF]
  simp [hk]

theorem sets_plain (p n : Nat) (hp : 2 ≤ p) (hp' : p ≤ 3) (hn : n ≤ 1048576) (B : Nat → Bool) (S : Nat → ByteArray) (tx : ByteArray) (k0 : Int) (s0 : Bool) (m0 i1 : ByteArray) :
    Sets (Fp p ptP B S) (fun k => Fp p ptP B S (k + 2)) (p + n) (p + n - 2) tx k0 s0 m0 i1 := by
  intro b g w tk lt st
  obtain ⟨q, hq⟩ : ∃ q, p + n = q + 2 := ⟨p + n - 2, by omega⟩
  rw [show p + n - 2 = q by omega]
  rw [hq] at tk ⊢
  have f1 : Fp p ptP B S 1 = (true, bTrans) := Fp_head ptP B S (by omega)
  refine set22_plain (Fp p ptP B S) _ b q (q + 2) g tx m0 i1 k0 s0 w tk (fun _ => rfl) (Nat.le_refl _) lt (by omega) st ?_ ?_ ?_
  · rw [isW_at (by omega) f1, lTrans]; rfl
  · rw [isW_at (by omega) f1, lTrans]; rfl
  · rw [isW_at (by omega) f1, lTrans]; rfl

theorem sets_scoped (p n : Nat) (hp : 3 ≤ p) (hp' : p ≤ 4) (hn : n ≤ 1048576) (sc : ByteArray) (hs : (sc.toList == wLocal) = true ∨ ((sc.toList == wLocal) = false ∧ (sc.toList == wSession) = true)) (B : Nat → Bool) (S : Nat → ByteArray) (tx : ByteArray) (k0 : Int) (s0 : Bool) (m0 i1 : ByteArray) :
    Sets (Fp p (ptS sc) B S) (fun k => Fp p (ptS sc) B S (k + 3)) (p + n) (p + n - 3) tx k0 s0 m0 i1 := by
  intro b g w tk lt st
  obtain ⟨q, hq⟩ : ∃ q, p + n = q + 3 := ⟨p + n - 3, by omega⟩
  rw [show p + n - 3 = q by omega]
  rw [hq] at tk ⊢
  have f1 : Fp p (ptS sc) B S 1 = (true, sc) := Fp_head (ptS sc) B S (by omega)
  have f2 : Fp p (ptS sc) B S 2 = (true, bTrans) := Fp_head (ptS sc) B S (by omega)
  have h3 : isW (Fp p (ptS sc) B S) (q + 3) 2 wTransaction = true := by rw [isW_at (by omega) f2, lTrans]; rfl
  rcases hs with h | ⟨h, h'⟩
  · exact set22_local (Fp p (ptS sc) B S) _ b q (q + 3) g tx m0 i1 k0 s0 w tk (fun _ => rfl) (Nat.le_refl _) lt (by omega) st (by rw [isW_at (by omega) f1]; exact h) h3
  · exact set22_session (Fp p (ptS sc) B S) _ b q (q + 3) g tx m0 i1 k0 s0 w tk (fun _ => rfl) (Nat.le_refl _) lt (by omega) st (by rw [isW_at (by omega) f1]; exact h) (by rw [isW_at (by omega) f1]; exact h') h3

theorem tail_plain (B : Nat → Bool) (S : Nat → ByteArray) : (fun k => Fp 2 ptP B S (k + 2)) = fun k => (B k, S k) := by funext k; exact Fp_tail 2 ptP B S k
theorem tail_scoped (sc : ByteArray) (B : Nat → Bool) (S : Nat → ByteArray) : (fun k => Fp 3 (ptS sc) B S (k + 3)) = fun k => (B k, S k) := by funext k; exact Fp_tail 3 (ptS sc) B S k
theorem snap_plain (n : Nat) (B : Nat → Bool) (S : Nat → ByteArray) : isW (fun k => Fp 3 ptP B S (k + 2)) (3 + n - 2) 0 wSnapshot = true := by
  rw [isW_at (x := bSnap) (by omega) (Fp_head ptP B S (by omega)), lSnap]; rfl
theorem snap_scoped (n : Nat) (sc : ByteArray) (B : Nat → Bool) (S : Nat → ByteArray) : isW (fun k => Fp 4 (ptS sc) B S (k + 3)) (4 + n - 3) 0 wSnapshot = true := by
  rw [isW_at (x := bSnap) (by omega) (Fp_head (ptS sc) B S (by omega)), lSnap]; rfl
theorem letter {P : Program} {c : Code} {Q : Exit → Act → World → Prop} {a : Act} {w : World} (S : World → Prop) (h : S w) (k : ∀ W, S W → Code.wp P c Q a W) : Code.wp P c Q a w := k w h
theorem holdsL {W : World} {g : Nat} {xs : List Value} (h : ∀ (j : Nat) u, xs[j]? = some u → W.cell? ⟨g, j, none⟩ = some u) : ∀ b, some (⟨g, 0, none⟩ : Addr) = some b → ∀ (j : Nat) u, xs[j]? = some u → W.cell? (b.add j) = some u := by
  intro b hb j u hj
  cases hb
  rw [Go.WideShapes.add_plain, Nat.zero_add]
  exact h j u hj
theorem below_one (w : World) (o : Obj) : Below w.heap.size w (w.alloc o) := (Below.refl _ _).alloc (Nat.le_refl _) o
theorem below_cell {w w' : World} (h : Below w.heap.size w w') {b j : Nat} (hb : b < w.heap.size) : w'.cell? ⟨b, j, none⟩ = w.cell? ⟨b, j, none⟩ := h.cell (p := ⟨b, j, none⟩) hb

set_option maxRecDepth 100000 in
set_option maxHeartbeats 4000000 in
theorem law4 (kd : Int) (sr sn : Bool) (m i t sc : ByteArray) (a1 a2 a3 a4 a5 : Option Addr) (l1 l2 l3 l4 l5 c1 c2 c3 c4 c5 : Nat) (B : Nat → Bool) (S U : Nat → ByteArray) (X Y : Nat → Int) (w : World) (hm : m.size ≤ maxLen) (hi : i.size ≤ maxLen) (ht : t.size ≤ maxLen) (hsc : sc.size ≤ maxLen)
    (h1 : l1 ≤ 9223372036854775807) (h2 : l2 ≤ 9223372036854775807) (h3 : l3 ≤ 9223372036854775807) (h4 : l4 ≤ 9223372036854775807) (h5 : l5 ≤ 9223372036854775807) (s2 : Strs w a2 l2) (s3 : Strs w a3 l3)
    (fB : BoolsF w a1 l1 B) (fS : StrsF w a2 l2 S) (fU : StrsF w a3 l3 U) (fX : IntsF w a4 l4 X) (fY : IntsF w a5 l5 Y) :
    Calls Try.prog 4 #[.int .i64 kd, .bool sr, .string m, .string i, .string t, .slice a1 l1 c1, .slice a2 l2 c2, .slice a3 l3 c3, .slice a4 l4 c4, .slice a5 l5 c5, .string sc, .bool sn] w fun e w' => e = .returned (.bool true) ∧ Below w.heap.size w w' := by
  go_enter Try.func4, Try.ntmps4
  go_wp2_with fail
  refine (bytes9 kd sr sn m i t sc a1 a2 a3 a4 a5 l1 l2 l3 l4 l5 c1 c2 c3 c4 c5 w hm hi ht hsc h1 h2 h3 h4 h5 s2 s3).mono ?_
  rintro e w' ⟨⟨o, rfl, ho⟩, rfl⟩
  unfold maxLen at hm hi ht hsc
  cases o
  · clear ho
    go_wp2
    go_ret
    exact ⟨rfl, Below.refl _ _⟩
  have b1 : l1 ≤ 1048576 := ho rfl _ (by simp)
  have b2 : l2 ≤ 1048576 := ho rfl _ (by simp)
  clear ho
  by_cases H : (m.size ≤ 1048576 ∧ i.size ≤ 1048576) ∧ (t.size ≤ 1048576 ∧ sc.size ≤ 1048576)
  case neg =>
    have HH : Hid (¬ ((m.size ≤ 1048576 ∧ i.size ≤ 1048576) ∧ (t.size ≤ 1048576 ∧ sc.size ≤ 1048576))) := H
    clear H
    go_wp2_with fail
    all_goals first
      | (go_ret; exact ⟨rfl, Below.refl _ _⟩)
      | (exfalso; have := HH.out; omega)
  obtain ⟨⟨m1, i1⟩, ⟨t1, sc1⟩⟩ := H
  go_wp2_with fail
  refine (tooBig10 _ a1 a2 a3 a4 a5 l1 l2 l3 l4 l5 c1 c2 c3 c4 c5 w (by omega) (by omega) h1 h2 h3 h4 h5 s2 s3).mono ?_
  rintro e w' ⟨⟨o, rfl⟩, rfl⟩
  cases o
  case true =>
    go_wp2
    go_ret
    exact ⟨rfl, Below.refl _ _⟩
  clear s2 s3
  by_cases H : l1 = l2 ∧ l3 = l2 ∧ l4 = l2 ∧ l5 = l2
  case neg =>
    have HH : Hid (¬ (l1 = l2 ∧ l3 = l2 ∧ l4 = l2 ∧ l5 = l2)) := H
    clear H
    cases q1 : (l1 : Int) != (l2 : Int)
    case true =>
      go_wp2
      go_ret
      exact ⟨rfl, Below.refl _ _⟩
    cases q3 : (l3 : Int) != (l2 : Int)
    case true =>
      go_wp2
      go_ret
      exact ⟨rfl, Below.refl _ _⟩
    cases q4 : (l4 : Int) != (l2 : Int)
    case true =>
      go_wp2
      go_ret
      exact ⟨rfl, Below.refl _ _⟩
    cases q5 : (l5 : Int) != (l2 : Int)
    case true =>
      go_wp2
      go_ret
      exact ⟨rfl, Below.refl _ _⟩
    exfalso
    apply HH.out
    simp at q1 q3 q4 q5
    omega
  obtain ⟨e1, e3, e4, e5⟩ := H
  obtain ⟨n, hn⟩ : ∃ n, n = l2 := ⟨_, rfl⟩
  rw [← hn] at e1 e3 e4 e5
  subst e1 e3 e4 e5
  subst hn
  have ar : Args w a1 a2 a3 a4 a5 l5 B S U X Y := ⟨fB, fS, fU, fX, fY⟩
  clear fB fS fU fX fY h1 h2 h3 h4
  cases e1 : sc.toList == [108, 111, 99, 97, 108]
  · cases e2 : sc.toList == [115, 101, 115, 115, 105, 111, 110]
    · go_wp2
      go_ret
      exact ⟨rfl, Below.refl _ _⟩
    · have HS : Hid ((sc.toList == wLocal) = true ∨ ((sc.toList == wLocal) = false ∧ (sc.toList == wSession) = true)) := Or.inr ⟨e1, e2⟩
      cases sn
      · go_upto_if 130 with (fail)
        refine letter (fun W => Below w.heap.size w W ∧ w.heap.size + 1 < W.heap.size ∧ (∀ (j : Nat) u, [Value.string bSet, .string bTrans][j]? = some u → W.cell? ⟨w.heap.size, j, none⟩ = some u) ∧ (∀ (j : Nat) u, [Value.string bSet, .string sc, .string bTrans][j]? = some u → W.cell? ⟨w.heap.size + 1, j, none⟩ = some u)) ?_ (fun W hS => ?_)
        · refine ⟨((Below.refl _ _).alloc (Nat.le_refl _) _).alloc (by simp) _, by simp, fun j u hj => ?_, fun j u hj => ?_⟩
          · match j, hj with
            | 0, hj => simp at hj; subst hj; go_simp; rfl
            | 1, hj => simp at hj; subst hj; go_simp; rfl
          · match j, hj with
            | 0, hj => simp at hj; subst hj; go_simp; rfl
            | 1, hj => simp at hj; subst hj; go_simp
            | 2, hj => simp at hj; subst hj; go_simp; rfl
        obtain ⟨belW, ltW, hP, hQ⟩ := hS
        replace ar := ar.step belW
        have hpP : ∀ k, k < 2 → W.cell? ⟨w.heap.size, k, none⟩ = some (.string (ptP k)) := fun k hk => by
          rcases (show k = 0 ∨ k = 1 by omega) with rfl | rfl
          · exact hP 0 _ rfl
          · exact hP 1 _ rfl
        have hpS : ∀ k, k < 3 → W.cell? ⟨w.heap.size + 1, k, none⟩ = some (.string (ptS sc k)) := fun k hk => by
          rcases (show k = 0 ∨ k = 1 ∨ k = 2 by omega) with rfl | rfl | rfl
          · exact hQ 0 _ rfl
          · exact hQ 1 _ rfl
          · exact hQ 2 _ rfl
        have ltS := ltW
        clear hP hQ
        go_wp2_with fail
        refine (prefixFive ptP B S U X Y w.heap.size 2 2 l5 c1 c2 c3 c4 c5 a1 a2 a3 a4 a5 W (by omega) hpP ar).mono ?_
        rintro e w1 ⟨rfl, ⟨U1, X1, Y1, five1⟩, bel1⟩
        replace ar := ar.step bel1
        replace belW := belW.trans (bel1.mono belW.size)
        have hpS1 : ∀ k, k < 3 → w1.cell? ⟨(w.heap.size + 1), k, none⟩ = some (.string (ptS sc k)) := fun k hk => (bel1.cell (p := ⟨(w.heap.size + 1), k, none⟩) ltS).trans (hpS k hk)
        clear hpP hpS bel1
        go_wp2_with fail
        refine (prefixFive (ptS sc) B S U X Y (w.heap.size + 1) 3 3 l5 c1 c2 c3 c4 c5 a1 a2 a3 a4 a5 w1 (by omega) hpS1 ar).mono ?_
        rintro e w2 ⟨rfl, ⟨U2, X2, Y2, five2⟩, bel2⟩
        replace five1 := five1.step bel2
        replace belW := belW.trans (bel2.mono belW.size)
        clear hpS1 ar bel2
        go_wp2_with fail
        have z1 := zzset12 (Fp 2 ptP B S) _ U1 X1 Y1 _ _ _ _ _ (2 + l5) (2 + l5) (2 + l5) (2 + l5) (2 + l5) (2 + l5) (2 + l5 - 2) kd sr m i t w2 (by omega) five1 (sets_plain 2 l5 (by omega) (by omega) (by omega) B S t kd sr m i)
        rw [tail_plain, show 2 + l5 - 2 = l5 by omega] at z1
        refine z1.mono ?_
        clear z1
        rintro e w3 ⟨rfl, bel3⟩
        replace five2 := five2.step bel3
        replace belW := belW.trans (bel3.mono belW.size)
        clear five1 bel3
        go_wp2_with fail
        have z2 := zzset12 (Fp 3 (ptS sc) B S) _ U2 X2 Y2 _ _ _ _ _ (3 + l5) (3 + l5) (3 + l5) (3 + l5) (3 + l5) (3 + l5) (3 + l5 - 3) kd sr m i t w3 (by omega) five2 (sets_scoped 3 l5 (by omega) (by omega) (by omega) sc HS.out B S t kd sr m i)
        rw [tail_scoped, show 3 + l5 - 3 = l5 by omega] at z2
        refine z2.mono ?_
        clear z2
        rintro e w4 ⟨rfl, bel4⟩
        replace belW := belW.trans (bel4.mono belW.size)
        clear five2 bel4
        by_cases hz : l5 = 0
        · subst hz
          obtain ⟨o1, o2, o3, o4⟩ := out_zero (fun k => (B k, S k)) kd sr m i
          rw [o1, o2, o3, o4]
          clear o1 o2 o3 o4
          go_wp2
          go_ret
          exact ⟨by simp, belW⟩
        · have hz' : ((l5 : Int) == 0) = false := by simp; omega
          generalize outK (fun k => (B k, S k)) l5 kd = q1
          generalize outS (fun k => (B k, S k)) l5 sr = q2
          generalize outM (fun k => (B k, S k)) l5 m = q3
          generalize outI (fun k => (B k, S k)) l5 i = q4
          clear hz
          go_wp2
          go_ret
          exact ⟨rfl, belW⟩
      · go_upto_if 130 with (fail)
        refine letter (fun W => Below w.heap.size w W ∧ w.heap.size + 1 < W.heap.size ∧ (∀ (j : Nat) u, [Value.string bSet, .string bTrans][j]? = some u → W.cell? ⟨w.heap.size, j, none⟩ = some u) ∧ (∀ (j : Nat) u, [Value.string bSet, .string sc, .string bTrans][j]? = some u → W.cell? ⟨w.heap.size + 1, j, none⟩ = some u)) ?_ (fun W hS => ?_)
        · refine ⟨((Below.refl _ _).alloc (Nat.le_refl _) _).alloc (by simp) _, by simp, fun j u hj => ?_, fun j u hj => ?_⟩
          · match j, hj with
            | 0, hj => simp at hj; subst hj; go_simp; rfl
            | 1, hj => simp at hj; subst hj; go_simp; rfl
          · match j, hj with
            | 0, hj => simp at hj; subst hj; go_simp; rfl
            | 1, hj => simp at hj; subst hj; go_simp
            | 2, hj => simp at hj; subst hj; go_simp; rfl
        obtain ⟨belW, ltW, hP, hQ⟩ := hS
        replace ar := ar.step belW
        obtain ⟨i0, hi0, hz0, hz1, hz2⟩ := info_parts info9
        go_upto_region 16 with (at_builtin; refine wpList_append_grows _ rfl (.tmp 131) (.tmp 132) 25 rfl 9 i0 (.string ⟨#[]⟩) 1 16 Try.underlying25 hi0 hz0 hz1 hz2 rfl (by decide) _ 2 2 [.string bSet, .string bTrans] rfl (by intro h; cases h) rfl (holdsL (fun j u hj => (below_cell (below_one W _) (by omega)).trans (hP j u hj))) ⟨W.heap.size, 0, none⟩ 1 1 [.string bSnap] rfl rfl (cell_one_new _ _ _) (by intro u hu; simp at hu; subst hu; rfl) (by decide) (by decide) (by decide) ?_; intro v1 v2 own1 grow1)
        have b1 : Below W.heap.size W v2 := (below_one W _).grown grow1 (by simp) (fun k h => by cases h)
        obtain ⟨g1, q1, rfl, _, lg1, _, hcell1⟩ := own_cells (xs := [bSet, bTrans, bSnap]) own1 (by simp)
        have hQ2 : ∀ (j : Nat) u, [Value.string bSet, .string sc, .string bTrans][j]? = some u → v2.cell? ⟨w.heap.size + 1, j, none⟩ = some u := fun j u hj => (below_cell b1 ltW).trans (hQ j u hj)
        have lt2 : w.heap.size + 1 < v2.heap.size := Nat.lt_of_lt_of_le ltW b1.size
        replace ar := ar.step b1
        replace belW := belW.trans (b1.mono belW.size)
        clear own1 grow1 b1 hP hQ ltW
        go_wp2_with (at_builtin; refine wpList_append_grows _ rfl (.tmp 134) (.tmp 135) 25 rfl 9 i0 (.string ⟨#[]⟩) 1 16 Try.underlying25 hi0 hz0 hz1 hz2 rfl (by decide) _ 3 3 [.string bSet, .string sc, .string bTrans] rfl (by intro h; cases h) rfl (holdsL (fun j u hj => (below_cell (below_one v2 _) lt2).trans (hQ2 j u hj))) ⟨v2.heap.size, 0, none⟩ 1 1 [.string bSnap] rfl rfl (cell_one_new _ _ _) (by intro u hu; simp at hu; subst hu; rfl) (by decide) (by decide) (by decide) ?_; intro u1 u2 own2 grow2)
        have b2 : Below v2.heap.size v2 u2 := (below_one v2 _).grown grow2 (by simp) (fun k h => by cases h)
        obtain ⟨g2, q2, rfl, _, ltS, _, hcell2⟩ := own_cells (xs := [bSet, sc, bTrans, bSnap]) own2 (by simp)
        have hpP : ∀ k, k < 3 → u2.cell? ⟨g1, k, none⟩ = some (.string (ptP k)) := fun k hk => by
          rw [below_cell b2 lg1]
          rcases (show k = 0 ∨ k = 1 ∨ k = 2 by omega) with rfl | rfl | rfl
          · exact hcell1 0 _ rfl
          · exact hcell1 1 _ rfl
          · exact hcell1 2 _ rfl
        have hpS : ∀ k, k < 4 → u2.cell? ⟨g2, k, none⟩ = some (.string (ptS sc k)) := fun k hk => by
          rcases (show k = 0 ∨ k = 1 ∨ k = 2 ∨ k = 3 by omega) with rfl | rfl | rfl | rfl
          · exact hcell2 0 _ rfl
          · exact hcell2 1 _ rfl
          · exact hcell2 2 _ rfl
          · exact hcell2 3 _ rfl
        replace ar := ar.step b2
        replace belW := belW.trans (b2.mono belW.size)
        clear own2 grow2 b2 hQ2 lt2 hcell1 hcell2 lg1
        refine (prefixFive ptP B S U X Y g1 3 q1 l5 c1 c2 c3 c4 c5 a1 a2 a3 a4 a5 u2 (by omega) hpP ar).mono ?_
        rintro e w1 ⟨rfl, ⟨U1, X1, Y1, five1⟩, bel1⟩
        replace ar := ar.step bel1
        replace belW := belW.trans (bel1.mono belW.size)
        have hpS1 : ∀ k, k < 4 → w1.cell? ⟨g2, k, none⟩ = some (.string (ptS sc k)) := fun k hk => (bel1.cell (p := ⟨g2, k, none⟩) ltS).trans (hpS k hk)
        clear hpP hpS bel1
        go_wp2_with fail
        refine (prefixFive (ptS sc) B S U X Y g2 4 q2 l5 c1 c2 c3 c4 c5 a1 a2 a3 a4 a5 w1 (by omega) hpS1 ar).mono ?_
        rintro e w2 ⟨rfl, ⟨U2, X2, Y2, five2⟩, bel2⟩
        replace five1 := five1.step bel2
        replace belW := belW.trans (bel2.mono belW.size)
        clear hpS1 ar bel2
        go_wp2_with fail
        have z1 := zzset12 (Fp 3 ptP B S) _ U1 X1 Y1 _ _ _ _ _ (3 + l5) (3 + l5) (3 + l5) (3 + l5) (3 + l5) (3 + l5) (3 + l5 - 2) kd sr m i t w2 (by omega) five1 (sets_plain 3 l5 (by omega) (by omega) (by omega) B S t kd sr m i)
        obtain ⟨o1, o2, o3, o4⟩ := out_snap (snap_plain l5 B S) kd sr m i
        rw [o1, o2, o3, o4] at z1
        clear o1 o2 o3 o4
        refine z1.mono ?_
        clear z1
        rintro e w3 ⟨rfl, bel3⟩
        replace five2 := five2.step bel3
        replace belW := belW.trans (bel3.mono belW.size)
        clear five1 bel3
        go_wp2_with fail
        have z2 := zzset12 (Fp 4 (ptS sc) B S) _ U2 X2 Y2 _ _ _ _ _ (4 + l5) (4 + l5) (4 + l5) (4 + l5) (4 + l5) (4 + l5) (4 + l5 - 3) kd sr m i t w3 (by omega) five2 (sets_scoped 4 l5 (by omega) (by omega) (by omega) sc HS.out B S t kd sr m i)
        obtain ⟨o1, o2, o3, o4⟩ := out_snap (snap_scoped l5 sc B S) kd sr m i
        rw [o1, o2, o3, o4] at z2
        clear o1 o2 o3 o4
        refine z2.mono ?_
        clear z2
        rintro e w4 ⟨rfl, bel4⟩
        replace belW := belW.trans (bel4.mono belW.size)
        clear five2 bel4
        go_wp2
        go_ret
        exact ⟨by simp, belW⟩
  · have HS : Hid ((sc.toList == wLocal) = true ∨ ((sc.toList == wLocal) = false ∧ (sc.toList == wSession) = true)) := Or.inl e1
    cases sn
    · go_upto_if 130 with (fail)
      refine letter (fun W => Below w.heap.size w W ∧ w.heap.size + 1 < W.heap.size ∧ (∀ (j : Nat) u, [Value.string bSet, .string bTrans][j]? = some u → W.cell? ⟨w.heap.size, j, none⟩ = some u) ∧ (∀ (j : Nat) u, [Value.string bSet, .string sc, .string bTrans][j]? = some u → W.cell? ⟨w.heap.size + 1, j, none⟩ = some u)) ?_ (fun W hS => ?_)
      · refine ⟨((Below.refl _ _).alloc (Nat.le_refl _) _).alloc (by simp) _, by simp, fun j u hj => ?_, fun j u hj => ?_⟩
        · match j, hj with
          | 0, hj => simp at hj; subst hj; go_simp; rfl
          | 1, hj => simp at hj; subst hj; go_simp; rfl
        · match j, hj with
          | 0, hj => simp at hj; subst hj; go_simp; rfl
          | 1, hj => simp at hj; subst hj; go_simp
          | 2, hj => simp at hj; subst hj; go_simp; rfl
      obtain ⟨belW, ltW, hP, hQ⟩ := hS
      replace ar := ar.step belW
      have hpP : ∀ k, k < 2 → W.cell? ⟨w.heap.size, k, none⟩ = some (.string (ptP k)) := fun k hk => by
        rcases (show k = 0 ∨ k = 1 by omega) with rfl | rfl
        · exact hP 0 _ rfl
        · exact hP 1 _ rfl
      have hpS : ∀ k, k < 3 → W.cell? ⟨w.heap.size + 1, k, none⟩ = some (.string (ptS sc k)) := fun k hk => by
        rcases (show k = 0 ∨ k = 1 ∨ k = 2 by omega) with rfl | rfl | rfl
        · exact hQ 0 _ rfl
        · exact hQ 1 _ rfl
        · exact hQ 2 _ rfl
      have ltS := ltW
      clear hP hQ
      go_wp2_with fail
      refine (prefixFive ptP B S U X Y w.heap.size 2 2 l5 c1 c2 c3 c4 c5 a1 a2 a3 a4 a5 W (by omega) hpP ar).mono ?_
      rintro e w1 ⟨rfl, ⟨U1, X1, Y1, five1⟩, bel1⟩
      replace ar := ar.step bel1
      replace belW := belW.trans (bel1.mono belW.size)
      have hpS1 : ∀ k, k < 3 → w1.cell? ⟨(w.heap.size + 1), k, none⟩ = some (.string (ptS sc k)) := fun k hk => (bel1.cell (p := ⟨(w.heap.size + 1), k, none⟩) ltS).trans (hpS k hk)
      clear hpP hpS bel1
      go_wp2_with fail
      refine (prefixFive (ptS sc) B S U X Y (w.heap.size + 1) 3 3 l5 c1 c2 c3 c4 c5 a1 a2 a3 a4 a5 w1 (by omega) hpS1 ar).mono ?_
      rintro e w2 ⟨rfl, ⟨U2, X2, Y2, five2⟩, bel2⟩
      replace five1 := five1.step bel2
      replace belW := belW.trans (bel2.mono belW.size)
      clear hpS1 ar bel2
      go_wp2_with fail
      have z1 := zzset12 (Fp 2 ptP B S) _ U1 X1 Y1 _ _ _ _ _ (2 + l5) (2 + l5) (2 + l5) (2 + l5) (2 + l5) (2 + l5) (2 + l5 - 2) kd sr m i t w2 (by omega) five1 (sets_plain 2 l5 (by omega) (by omega) (by omega) B S t kd sr m i)
      rw [tail_plain, show 2 + l5 - 2 = l5 by omega] at z1
      refine z1.mono ?_
      clear z1
      rintro e w3 ⟨rfl, bel3⟩
      replace five2 := five2.step bel3
      replace belW := belW.trans (bel3.mono belW.size)
      clear five1 bel3
      go_wp2_with fail
      have z2 := zzset12 (Fp 3 (ptS sc) B S) _ U2 X2 Y2 _ _ _ _ _ (3 + l5) (3 + l5) (3 + l5) (3 + l5) (3 + l5) (3 + l5) (3 + l5 - 3) kd sr m i t w3 (by omega) five2 (sets_scoped 3 l5 (by omega) (by omega) (by omega) sc HS.out B S t kd sr m i)
      rw [tail_scoped, show 3 + l5 - 3 = l5 by omega] at z2
      refine z2.mono ?_
      clear z2
      rintro e w4 ⟨rfl, bel4⟩
      replace belW := belW.trans (bel4.mono belW.size)
      clear five2 bel4
      by_cases hz : l5 = 0
      · subst hz
        obtain ⟨o1, o2, o3, o4⟩ := out_zero (fun k => (B k, S k)) kd sr m i
        rw [o1, o2, o3, o4]
        clear o1 o2 o3 o4
        go_wp2
        go_ret
        exact ⟨by simp, belW⟩
      · have hz' : ((l5 : Int) == 0) = false := by simp; omega
        generalize outK (fun k => (B k, S k)) l5 kd = q1
        generalize outS (fun k => (B k, S k)) l5 sr = q2
        generalize outM (fun k => (B k, S k)) l5 m = q3
        generalize outI (fun k => (B k, S k)) l5 i = q4
        clear hz
        go_wp2
        go_ret
        exact ⟨rfl, belW⟩
    · go_upto_if 130 with (fail)
      refine letter (fun W => Below w.heap.size w W ∧ w.heap.size + 1 < W.heap.size ∧ (∀ (j : Nat) u, [Value.string bSet, .string bTrans][j]? = some u → W.cell? ⟨w.heap.size, j, none⟩ = some u) ∧ (∀ (j : Nat) u, [Value.string bSet, .string sc, .string bTrans][j]? = some u → W.cell? ⟨w.heap.size + 1, j, none⟩ = some u)) ?_ (fun W hS => ?_)
      · refine ⟨((Below.refl _ _).alloc (Nat.le_refl _) _).alloc (by simp) _, by simp, fun j u hj => ?_, fun j u hj => ?_⟩
        · match j, hj with
          | 0, hj => simp at hj; subst hj; go_simp; rfl
          | 1, hj => simp at hj; subst hj; go_simp; rfl
        · match j, hj with
          | 0, hj => simp at hj; subst hj; go_simp; rfl
          | 1, hj => simp at hj; subst hj; go_simp
          | 2, hj => simp at hj; subst hj; go_simp; rfl
      obtain ⟨belW, ltW, hP, hQ⟩ := hS
      replace ar := ar.step belW
      obtain ⟨i0, hi0, hz0, hz1, hz2⟩ := info_parts info9
      go_upto_region 16 with (at_builtin; refine wpList_append_grows _ rfl (.tmp 131) (.tmp 132) 25 rfl 9 i0 (.string ⟨#[]⟩) 1 16 Try.underlying25 hi0 hz0 hz1 hz2 rfl (by decide) _ 2 2 [.string bSet, .string bTrans] rfl (by intro h; cases h) rfl (holdsL (fun j u hj => (below_cell (below_one W _) (by omega)).trans (hP j u hj))) ⟨W.heap.size, 0, none⟩ 1 1 [.string bSnap] rfl rfl (cell_one_new _ _ _) (by intro u hu; simp at hu; subst hu; rfl) (by decide) (by decide) (by decide) ?_; intro v1 v2 own1 grow1)
      have b1 : Below W.heap.size W v2 := (below_one W _).grown grow1 (by simp) (fun k h => by cases h)
      obtain ⟨g1, q1, rfl, _, lg1, _, hcell1⟩ := own_cells (xs := [bSet, bTrans, bSnap]) own1 (by simp)
      have hQ2 : ∀ (j : Nat) u, [Value.string bSet, .string sc, .string bTrans][j]? = some u → v2.cell? ⟨w.heap.size + 1, j, none⟩ = some u := fun j u hj => (below_cell b1 ltW).trans (hQ j u hj)
      have lt2 : w.heap.size + 1 < v2.heap.size := Nat.lt_of_lt_of_le ltW b1.size
      replace ar := ar.step b1
      replace belW := belW.trans (b1.mono belW.size)
      clear own1 grow1 b1 hP hQ ltW
      go_wp2_with (at_builtin; refine wpList_append_grows _ rfl (.tmp 134) (.tmp 135) 25 rfl 9 i0 (.string ⟨#[]⟩) 1 16 Try.underlying25 hi0 hz0 hz1 hz2 rfl (by decide) _ 3 3 [.string bSet, .string sc, .string bTrans] rfl (by intro h; cases h) rfl (holdsL (fun j u hj => (below_cell (below_one v2 _) lt2).trans (hQ2 j u hj))) ⟨v2.heap.size, 0, none⟩ 1 1 [.string bSnap] rfl rfl (cell_one_new _ _ _) (by intro u hu; simp at hu; subst hu; rfl) (by decide) (by decide) (by decide) ?_; intro u1 u2 own2 grow2)
      have b2 : Below v2.heap.size v2 u2 := (below_one v2 _).grown grow2 (by simp) (fun k h => by cases h)
      obtain ⟨g2, q2, rfl, _, ltS, _, hcell2⟩ := own_cells (xs := [bSet, sc, bTrans, bSnap]) own2 (by simp)
      have hpP : ∀ k, k < 3 → u2.cell? ⟨g1, k, none⟩ = some (.string (ptP k)) := fun k hk => by
        rw [below_cell b2 lg1]
        rcases (show k = 0 ∨ k = 1 ∨ k = 2 by omega) with rfl | rfl | rfl
        · exact hcell1 0 _ rfl
        · exact hcell1 1 _ rfl
        · exact hcell1 2 _ rfl
      have hpS : ∀ k, k < 4 → u2.cell? ⟨g2, k, none⟩ = some (.string (ptS sc k)) := fun k hk => by
        rcases (show k = 0 ∨ k = 1 ∨ k = 2 ∨ k = 3 by omega) with rfl | rfl | rfl | rfl
        · exact hcell2 0 _ rfl
        · exact hcell2 1 _ rfl
        · exact hcell2 2 _ rfl
        · exact hcell2 3 _ rfl
      replace ar := ar.step b2
      replace belW := belW.trans (b2.mono belW.size)
      clear own2 grow2 b2 hQ2 lt2 hcell1 hcell2 lg1
      refine (prefixFive ptP B S U X Y g1 3 q1 l5 c1 c2 c3 c4 c5 a1 a2 a3 a4 a5 u2 (by omega) hpP ar).mono ?_
      rintro e w1 ⟨rfl, ⟨U1, X1, Y1, five1⟩, bel1⟩
      replace ar := ar.step bel1
      replace belW := belW.trans (bel1.mono belW.size)
      have hpS1 : ∀ k, k < 4 → w1.cell? ⟨g2, k, none⟩ = some (.string (ptS sc k)) := fun k hk => (bel1.cell (p := ⟨g2, k, none⟩) ltS).trans (hpS k hk)
      clear hpP hpS bel1
      go_wp2_with fail
      refine (prefixFive (ptS sc) B S U X Y g2 4 q2 l5 c1 c2 c3 c4 c5 a1 a2 a3 a4 a5 w1 (by omega) hpS1 ar).mono ?_
      rintro e w2 ⟨rfl, ⟨U2, X2, Y2, five2⟩, bel2⟩
      replace five1 := five1.step bel2
      replace belW := belW.trans (bel2.mono belW.size)
      clear hpS1 ar bel2
      go_wp2_with fail
      have z1 := zzset12 (Fp 3 ptP B S) _ U1 X1 Y1 _ _ _ _ _ (3 + l5) (3 + l5) (3 + l5) (3 + l5) (3 + l5) (3 + l5) (3 + l5 - 2) kd sr m i t w2 (by omega) five1 (sets_plain 3 l5 (by omega) (by omega) (by omega) B S t kd sr m i)
      obtain ⟨o1, o2, o3, o4⟩ := out_snap (snap_plain l5 B S) kd sr m i
      rw [o1, o2, o3, o4] at z1
      clear o1 o2 o3 o4
      refine z1.mono ?_
      clear z1
      rintro e w3 ⟨rfl, bel3⟩
      replace five2 := five2.step bel3
      replace belW := belW.trans (bel3.mono belW.size)
      clear five1 bel3
      go_wp2_with fail
      have z2 := zzset12 (Fp 4 (ptS sc) B S) _ U2 X2 Y2 _ _ _ _ _ (4 + l5) (4 + l5) (4 + l5) (4 + l5) (4 + l5) (4 + l5) (4 + l5 - 3) kd sr m i t w3 (by omega) five2 (sets_scoped 4 l5 (by omega) (by omega) (by omega) sc HS.out B S t kd sr m i)
      obtain ⟨o1, o2, o3, o4⟩ := out_snap (snap_scoped l5 sc B S) kd sr m i
      rw [o1, o2, o3, o4] at z2
      clear o1 o2 o3 o4
      refine z2.mono ?_
      clear z2
      rintro e w4 ⟨rfl, bel4⟩
      replace belW := belW.trans (bel4.mono belW.size)
      clear five2 bel4
      go_wp2
      go_ret
      exact ⟨by simp, belW⟩

end Go.Proofs.Qxb6618616a
