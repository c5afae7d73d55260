/- The contracts of transactionModes and setTransaction. -/
import Derived.Test.Qxb6618616aWithModes
import Derived.WalkKit
import Derived.WalkSpells
import Derived.WalkLawsBesides
set_option linter.unusedSimpArgs false
set_option linter.unusedVariables false
namespace Go.Proofs.Qxb6618616a
open Go.RowKit

theorem rm_small (T : Nat → Bool × ByteArray) (n : Nat) : ∀ (f i : Nat) (ms : List ByteArray) (ser : Bool), (∀ x ∈ ms, x.size ≤ 14) → ms.length ≤ i → i ≤ n →
    (∀ x ∈ (rm T n f i ms ser).1, x.size ≤ 14) ∧ (rm T n f i ms ser).1.length ≤ n
  | 0, i, ms, ser, h1, h2, h3 => by simp [rm]
  | f + 1, i, ms, ser, h1, h2, h3 => by
    unfold rm
    split
    · split
      · simp
      · rename_i d m ser' hm
        have hd := mode_le hm
        have hp := mode_pos hm
        obtain ⟨ho, hs⟩ := mode_one hm
        have g1 : ∀ x ∈ ms ++ m, x.size ≤ 14 := fun x hx => by
          rcases List.mem_append.1 hx with h | h
          · exact h1 x h
          · exact hs x h
        split
        · rename_i hc
          have hlt : i + d < n := by
            unfold comma at hc
            simp only [Bool.and_eq_true, decide_eq_true_eq] at hc
            exact hc.1.1
          split
          · simp
          · exact rm_small T n f _ _ _ g1 (by simp; omega) (by omega)
        · exact rm_small T n f _ _ _ g1 (by simp; omega) (by omega)
    · exact ⟨h1, by simp only; omega⟩

theorem join_le : ∀ (xs : List ByteArray), (∀ x ∈ xs, x.size ≤ 14) → (Lib.join (xs.map (·.data.toList)) sep).length ≤ 16 * xs.length
  | [], _ => by simp [Lib.join_nil]
  | [x], h => by
    rw [join_single]
    have := h x (by simp)
    simp; omega
  | x :: y :: r, h => by
    have e : Lib.join ((x :: y :: r).map (·.data.toList)) sep = x.data.toList ++ (sep ++ Lib.join ((y :: r).map (·.data.toList)) sep) := rfl
    have i := join_le (y :: r) (fun z hz => h z (by simp at hz ⊢; exact Or.inr hz))
    have hx := h x (by simp)
    rw [e, List.length_append, List.length_append, Array.length_toList]
    have e2 : sep.length = 2 := rfl
    have e3 : x.data.size = x.size := rfl
    rw [e2, e3]
    simp only [List.length_cons] at i ⊢
    omega

theorem joinB_size (T : Nat → Bool × ByteArray) (n : Nat) (hn : n ≤ 4194304) : (joinB (rmTop T n).1).size ≤ 1073741824 ∧ (Lib.join ((rmTop T n).1.map (·.data.toList)) sep).length ≤ 140737488355328 ∧ (rmTop T n).1.length ≤ n := by
  obtain ⟨h1, h2⟩ := rm_small T n (n + 1) 0 [] false (by simp) (by simp) (Nat.zero_le _)
  have h3 := join_le _ h1
  have e : (joinB (rmTop T n).1).size = (Lib.join ((rmTop T n).1.map (·.data.toList)) sep).length := by
    show (List.toArray _).size = _
    simp
  have h3' : (Lib.join ((rmTop T n).1.map (·.data.toList)) sep).length ≤ 16 * (rmTop T n).1.length := h3
  have h2' : (rmTop T n).1.length ≤ n := h2
  refine ⟨by rw [e]; omega, by omega, h2'⟩

/-- A Statement lies at block g: the fields that are read and written. -/
structure St (w : World) (g : Nat) (tx : ByteArray) (k : Int) (s : Bool) (m i : ByteArray) : Prop where
  lt : g < w.heap.size
  c0 : w.cell? ⟨g, 0, none⟩ = some (.string tx)
  c2 : w.cell? ⟨g, 2, none⟩ = some (.int .i64 k)
  c9 : w.cell? ⟨g, 9, none⟩ = some (.string m)
  c10 : w.cell? ⟨g, 10, none⟩ = some (.bool s)
  c11 : w.cell? ⟨g, 11, none⟩ = some (.string i)
  f2 : w.frozen? ⟨g, 2, none⟩ = false
  f9 : w.frozen? ⟨g, 9, none⟩ = false
  f10 : w.frozen? ⟨g, 10, none⟩ = false
  f11 : w.frozen? ⟨g, 11, none⟩ = false

theorem St.step {w w' : World} {g : Nat} {tx m i : ByteArray} {k : Int} {s : Bool} (h : St w g tx k s m i) (hb : Below w.heap.size w w') : St w' g tx k s m i where
  lt := Nat.lt_of_lt_of_le h.lt hb.size
  c0 := (hb.cell (p := ⟨g, 0, none⟩) h.lt).trans h.c0
  c2 := (hb.cell (p := ⟨g, 2, none⟩) h.lt).trans h.c2
  c9 := (hb.cell (p := ⟨g, 9, none⟩) h.lt).trans h.c9
  c10 := (hb.cell (p := ⟨g, 10, none⟩) h.lt).trans h.c10
  c11 := (hb.cell (p := ⟨g, 11, none⟩) h.lt).trans h.c11
  f2 := (hb.frozen (p := ⟨g, 2, none⟩) h.lt).trans h.f2
  f9 := (hb.frozen (p := ⟨g, 9, none⟩) h.lt).trans h.f9
  f10 := (hb.frozen (p := ⟨g, 10, none⟩) h.lt).trans h.f10
  f11 := (hb.frozen (p := ⟨g, 11, none⟩) h.lt).trans h.f11

theorem St.kind {w : World} {g : Nat} {tx m i : ByteArray} {k : Int} {s : Bool} (h : St w g tx k s m i) (k' : Int) : St (w.setCell ⟨g, 2, none⟩ (.int .i64 k')) g tx k' s m i := by
  obtain ⟨a, b, c, d, e, f, p, q, r, t⟩ := h
  exact ⟨by simpa using a, by go_simp, by go_simp, by go_simp, by go_simp, by go_simp, by go_simp, by go_simp, by go_simp, by go_simp⟩
theorem St.ser {w : World} {g : Nat} {tx m i : ByteArray} {k : Int} {s : Bool} (h : St w g tx k s m i) (s' : Bool) : St (w.setCell ⟨g, 10, none⟩ (.bool s')) g tx k s' m i := by
  obtain ⟨a, b, c, d, e, f, p, q, r, t⟩ := h
  exact ⟨by simpa using a, by go_simp, by go_simp, by go_simp, by go_simp, by go_simp, by go_simp, by go_simp, by go_simp, by go_simp⟩
theorem St.modes {w : World} {g : Nat} {tx m i : ByteArray} {k : Int} {s : Bool} (h : St w g tx k s m i) (m' : ByteArray) : St (w.setCell ⟨g, 9, none⟩ (.string m')) g tx k s m' i := by
  obtain ⟨a, b, c, d, e, f, p, q, r, t⟩ := h
  exact ⟨by simpa using a, by go_simp, by go_simp, by go_simp, by go_simp, by go_simp, by go_simp, by go_simp, by go_simp, by go_simp⟩
theorem St.iso {w : World} {g : Nat} {tx m i : ByteArray} {k : Int} {s : Bool} (h : St w g tx k s m i) (i' : ByteArray) : St (w.setCell ⟨g, 11, none⟩ (.string i')) g tx k s m i' := by
  obtain ⟨a, b, c, d, e, f, p, q, r, t⟩ := h
  exact ⟨by simpa using a, by go_simp, by go_simp, by go_simp, by go_simp, by go_simp, by go_simp, by go_simp, by go_simp, by go_simp⟩

set_option maxHeartbeats 1000000 in
theorem transModes26_no (T : Nat → Bool × ByteArray) (b off n c g : Nat) (tx m0 i1 : ByteArray) (k0 : Int) (s0 : Bool) (w : World) (hT : Toks w b off T n) (hb : b < g) (hn : n ≤ 4194304) (st : St w g tx k0 s0 m0 i1) (hok : (rmTop T n).2.2 = false) :
    Calls Try.prog 26 #[.pointer (some ⟨g, 0, none⟩), .int .i64 6, .string ⟨#[83, 69, 84, 32, 84, 82, 65, 78, 83, 65, 67, 84, 73, 79, 78]⟩, .slice (some ⟨b, off, none⟩) n c] w fun e w' => e = .returned (.tuple #[]) ∧ St w' g tx k0 s0 m0 i1 ∧ Below g w w' := by
  go_enter Try.func26, Try.ntmps26
  go_wp2_with fail
  refine (readModes28 T b off n c w hT (Nat.lt_trans hb st.lt) hn).mono ?_
  rintro e w1 ⟨⟨v, rfl, own⟩, bel⟩
  have st1 := st.step bel
  have bg := bel.mono (Nat.le_of_lt st.lt)
  clear own
  go_wp2
  exact bodyPost_ret (v := .tuple #[]) (by simp [results, Try.results26, go_sem]) rfl ⟨rfl, st1, bg⟩

theorem below_set {B : Nat} {a w : World} (h : Below B a w) {g : Nat} (hg : B ≤ g) (o : Nat) (u : Value) : Below B a (w.setCell ⟨g, o, none⟩ u) := h.setCell (p := ⟨g, o, none⟩) hg u

theorem own_set {w : World} {base n : Nat} {v : Value} {xs : List Value} (h : w.ownsRow base 9 1 v n xs) {g o : Nat} (hg : g < base) (u : Value) : (w.setCell ⟨g, o, none⟩ u).ownsRow base 9 1 v n xs := by
  refine ⟨h.1, ?_⟩
  rcases h.2 with h' | ⟨g', cap, cur, rfl, hb, hc, rest⟩
  · exact Or.inl h'
  · exact Or.inr ⟨g', cap, cur, rfl, hb, (Below.heap_setCell w ⟨g, o, none⟩ u g' (by simp; omega)).trans hc, rest⟩

theorem join29 (xs : List ByteArray) (v : Value) (base : Nat) (w : World) (own : w.ownsRow base 9 1 v xs.length (xs.map Value.string)) (hN : xs.length ≤ 140737488355328) (hlen : (Lib.join (xs.map (·.data.toList)) sep).length ≤ 140737488355328) :
    Calls Try.prog 29 #[v, .string ⟨#[44, 32]⟩] w fun e w' => e = .returned (.string (joinB xs)) ∧ Below w.heap.size w w' := by
  by_cases h : xs = []
  · subst h
    obtain ⟨a, c, rfl⟩ : ∃ a c, v = .slice a 0 c := by
      rcases own.2 with ⟨rfl, _⟩ | ⟨g, cap, cur, rfl, _⟩
      · exact ⟨_, _, rfl⟩
      · exact ⟨_, _, rfl⟩
    exact (Try.strings_Join_none a c _ w).mono fun e w' ⟨he, hw⟩ => ⟨he, by subst hw; exact Below.refl _ _⟩
  · obtain ⟨g, cap, rfl, _, hg, hc, hcell⟩ := own_cells own h
    exact Try.strings_Join g 0 cap xs _ w hcell hg hN hc hlen

set_option maxHeartbeats 1000000 in
theorem transModes26_yes (T : Nat → Bool × ByteArray) (b off n c g : Nat) (tx m0 i1 : ByteArray) (k0 : Int) (s0 : Bool) (w : World) (hT : Toks w b off T n) (hb : b < g) (hn : n ≤ 4194304) (st : St w g tx k0 s0 m0 i1) (hok : (rmTop T n).2.2 = true) :
    Calls Try.prog 26 #[.pointer (some ⟨g, 0, none⟩), .int .i64 6, .string ⟨#[83, 69, 84, 32, 84, 82, 65, 78, 83, 65, 67, 84, 73, 79, 78]⟩, .slice (some ⟨b, off, none⟩) n c] w fun e w' => e = .returned (.tuple #[]) ∧ St w' g tx 6 (rmTop T n).2.1 (joinB (rmTop T n).1) (withM (joinB (rmTop T n).1)) ∧ Below g w w' := by
  obtain ⟨hj1, hj2, hj3⟩ := joinB_size T n hn
  go_enter Try.func26, Try.ntmps26
  go_wp2_with fail
  refine (readModes28 T b off n c w hT (Nat.lt_trans hb st.lt) hn).mono ?_
  rintro e w1 ⟨⟨v, rfl, own⟩, bel⟩
  have st1 := st.step bel
  have bg := bel.mono (Nat.le_of_lt st.lt)
  have hlt := st.lt
  obtain ⟨l1, a0, a2, a9, a10, a11, f2, f9, f10, f11⟩ := id st1
  clear st bel hT
  go_wp2_with fail
  have own2 := own_set (o := 10) (own_set (o := 2) own hlt (.int .i64 6)) hlt (.bool (rmTop T n).2.1)
  have st2 := (st1.kind 6).ser (rmTop T n).2.1
  have bg2 := below_set (below_set bg (Nat.le_refl g) 2 (.int .i64 6)) (Nat.le_refl g) 10 (.bool (rmTop T n).2.1)
  refine (join29 (rmTop T n).1 v w.heap.size _ own2 (by omega) hj2).mono ?_
  rintro e w3 ⟨rfl, hb3⟩
  have st3 := st2.step hb3
  have bg3 := bg2.trans (hb3.mono (Nat.le_of_lt st2.lt))
  clear own own2 st1 st2 bg bg2 hb3 l1 a0 a2 a9 a10 a11 f2 f9 f10 f11
  obtain ⟨l1, a0, a2, a9, a10, a11, f2, f9, f10, f11⟩ := id st3
  generalize hJ : joinB (rmTop T n).1 = J at *
  go_wp2_with fail
  have st4 := st3.modes J
  have hsz : (w3.setCell ⟨g, 9, none⟩ (.string J)).heap.size = w3.heap.size := by simp
  have b5 : Below w3.heap.size (w3.setCell ⟨g, 9, none⟩ (.string J)) ((w3.setCell ⟨g, 9, none⟩ (.string J)).alloc (.cells #[.string J] 9)) := (Below.refl _ _).alloc (by rw [hsz]; exact Nat.le_refl _) _
  refine (withModes30 w3.heap.size 1 J _ (by simp) (by go_simp) hj1).mono ?_
  rintro e w6 ⟨rfl, hb6⟩
  have st5 := st4.step (by rw [hsz]; exact b5)
  have st6 := st5.step hb6
  have bg6 := ((below_set bg3 (Nat.le_refl g) 9 (.string J)).trans (b5.mono (Nat.le_of_lt l1))).trans (hb6.mono (Nat.le_of_lt st5.lt))
  clear st3 st4 st5 bg3 b5 hb6 l1 a0 a2 a9 a10 a11 f2 f9 f10 f11
  obtain ⟨l1, a0, a2, a9, a10, a11, f2, f9, f10, f11⟩ := id st6
  go_wp2
  go_end0
  rw [hJ]
  exact ⟨rfl, st6.iso _, below_set bg6 (Nat.le_refl g) 11 _⟩

def wLocal : List UInt8 := [108, 111, 99, 97, 108]
def wSession : List UInt8 := [115, 101, 115, 115, 105, 111, 110]
def wTransaction : List UInt8 := [116, 114, 97, 110, 115, 97, 99, 116, 105, 111, 110]
def wSnapshot : List UInt8 := [115, 110, 97, 112, 115, 104, 111, 116]

/-- What a SET makes of the statement, the tokens behind TRANSACTION being T, n of them. -/
def After (T : Nat → Bool × ByteArray) (n : Nat) (w : World) (g : Nat) (tx : ByteArray) (k : Int) (s : Bool) (m i : ByteArray) : Prop :=
  if isW T n 0 wSnapshot = true then St w g tx 7 s m i
  else if 0 < n ∧ (rmTop T n).2.2 = true then St w g tx 6 (rmTop T n).2.1 (joinB (rmTop T n).1) (withM (joinB (rmTop T n).1))
  else St w g tx k s m i

theorem after_snap {T : Nat → Bool × ByteArray} {n : Nat} {w : World} {g : Nat} {tx : ByteArray} {k : Int} {s : Bool} {m i : ByteArray} (h : isW T n 0 wSnapshot = true) (st : St w g tx 7 s m i) : After T n w g tx k s m i := by
  unfold After; rw [if_pos h]; exact st
theorem after_yes {T : Nat → Bool × ByteArray} {n : Nat} {w : World} {g : Nat} {tx : ByteArray} {k : Int} {s : Bool} {m i : ByteArray} (h : isW T n 0 wSnapshot = false) (hn : 0 < n) (ho : (rmTop T n).2.2 = true) (st : St w g tx 6 (rmTop T n).2.1 (joinB (rmTop T n).1) (withM (joinB (rmTop T n).1))) : After T n w g tx k s m i := by
  unfold After; rw [if_neg (by simp [h]), if_pos ⟨hn, ho⟩]; exact st
theorem after_no {T : Nat → Bool × ByteArray} {n : Nat} {w : World} {g : Nat} {tx : ByteArray} {k : Int} {s : Bool} {m i : ByteArray} (h : isW T n 0 wSnapshot = false) (ho : n = 0 ∨ (rmTop T n).2.2 = false) (st : St w g tx k s m i) : After T n w g tx k s m i := by
  unfold After
  rw [if_neg (by simp [h]), if_neg (by rintro ⟨a, b⟩; rcases ho with h | h; omega; rw [h] at b; cases b)]
  exact st

set_option maxHeartbeats 1000000 in
/-- setTransaction where the word TRANSACTION is the second token. -/
theorem set22_plain (F T : Nat → Bool × ByteArray) (b n c g : Nat) (tx m0 i1 : ByteArray) (k0 : Int) (s0 : Bool) (w : World) (hT : Toks w b 0 F (n + 2)) (hTF : ∀ k, F (k + 2) = T k) (hc : n + 2 ≤ c) (hb : b < g) (hn : n ≤ 4194304) (st : St w g tx k0 s0 m0 i1)
    (h1 : isW F (n + 2) 1 wLocal = false) (h2 : isW F (n + 2) 1 wSession = false) (h3 : isW F (n + 2) 1 wTransaction = true) :
    Calls Try.prog 22 #[.pointer (some ⟨g, 0, none⟩), .slice (some ⟨b, 0, none⟩) (n + 2) c] w fun e w' => e = .returned (.tuple #[]) ∧ After T n w' g tx k0 s0 m0 i1 ∧ Below g w w' := by
  have e4 : isW F (n + 2) 2 wSnapshot = isW T n 0 wSnapshot := by
    unfold isW
    rw [show F 2 = T 0 from hTF 0]
    simp
  cases h4 : isW T n 0 wSnapshot
  · rw [h4] at e4
    by_cases hn0 : n = 0
    · have HN : Hid (n = 0) := hn0
      have hn1 : n ≤ 0 := by omega
      clear hn0
      go_enter Try.func22, Try.ntmps22
      go_wp2_with fail
      refine (isWf F b 0 (n + 2) c 1 wLocal _ _ _ hT (by omega) (by rw [ByteArray.toList_eq]; rfl) h1).mono ?_
      rintro e w' ⟨rfl, rfl⟩
      go_wp2_with fail
      refine (isWf F b 0 (n + 2) c 1 wSession _ _ _ hT (by omega) (by rw [ByteArray.toList_eq]; rfl) h2).mono ?_
      rintro e w' ⟨rfl, rfl⟩
      go_wp2_with fail
      refine (isWt F b 0 (n + 2) c 1 wTransaction _ _ _ hT (by omega) (by rw [ByteArray.toList_eq]; rfl) h3).mono ?_
      rintro e w' ⟨rfl, rfl⟩
      go_wp2_with fail
      refine (isWf F b 0 (n + 2) c 2 wSnapshot _ _ _ hT (by omega) (by rw [ByteArray.toList_eq]; rfl) e4).mono ?_
      rintro e w' ⟨rfl, rfl⟩
      go_wp2
      go_end0
      exact ⟨rfl, after_no h4 (Or.inl HN.out) st, Below.refl _ _⟩
    · have hT2 : Toks w b 10 T n := fun k hk => by
        have h := hT (k + 2) (by omega)
        rw [hTF k] at h
        rw [show 10 + k * 5 = 0 + (k + 2) * 5 by omega]
        exact h
      have hcc : ¬ c = 2 := by omega
      have hnn : ¬ c - 2 = 0 := by omega
      cases hok : (rmTop T n).2.2
      · go_enter Try.func22, Try.ntmps22
        go_wp2_with fail
        refine (isWf F b 0 (n + 2) c 1 wLocal _ _ _ hT (by omega) (by rw [ByteArray.toList_eq]; rfl) h1).mono ?_
        rintro e w' ⟨rfl, rfl⟩
        go_wp2_with fail
        refine (isWf F b 0 (n + 2) c 1 wSession _ _ _ hT (by omega) (by rw [ByteArray.toList_eq]; rfl) h2).mono ?_
        rintro e w' ⟨rfl, rfl⟩
        go_wp2_with fail
        refine (isWt F b 0 (n + 2) c 1 wTransaction _ _ _ hT (by omega) (by rw [ByteArray.toList_eq]; rfl) h3).mono ?_
        rintro e w' ⟨rfl, rfl⟩
        go_wp2_with fail
        refine (isWf F b 0 (n + 2) c 2 wSnapshot _ _ _ hT (by omega) (by rw [ByteArray.toList_eq]; rfl) e4).mono ?_
        rintro e w' ⟨rfl, rfl⟩
        go_wp2_with fail
        refine (transModes26_no T b 10 n _ g tx m0 i1 k0 s0 w hT2 hb hn st hok).mono ?_
        rintro e w' ⟨rfl, st', bg'⟩
        go_wp2
        go_end0
        exact ⟨rfl, after_no h4 (Or.inr hok) st', bg'⟩
      · go_enter Try.func22, Try.ntmps22
        go_wp2_with fail
        refine (isWf F b 0 (n + 2) c 1 wLocal _ _ _ hT (by omega) (by rw [ByteArray.toList_eq]; rfl) h1).mono ?_
        rintro e w' ⟨rfl, rfl⟩
        go_wp2_with fail
        refine (isWf F b 0 (n + 2) c 1 wSession _ _ _ hT (by omega) (by rw [ByteArray.toList_eq]; rfl) h2).mono ?_
        rintro e w' ⟨rfl, rfl⟩
        go_wp2_with fail
        refine (isWt F b 0 (n + 2) c 1 wTransaction _ _ _ hT (by omega) (by rw [ByteArray.toList_eq]; rfl) h3).mono ?_
        rintro e w' ⟨rfl, rfl⟩
        go_wp2_with fail
        refine (isWf F b 0 (n + 2) c 2 wSnapshot _ _ _ hT (by omega) (by rw [ByteArray.toList_eq]; rfl) e4).mono ?_
        rintro e w' ⟨rfl, rfl⟩
        go_wp2_with fail
        refine (transModes26_yes T b 10 n _ g tx m0 i1 k0 s0 w hT2 hb hn st hok).mono ?_
        rintro e w' ⟨rfl, st', bg'⟩
        go_wp2
        go_end0
        exact ⟨rfl, after_yes h4 (by omega) hok st', bg'⟩
  · rw [h4] at e4
    obtain ⟨l1, a0, a2, a9, a10, a11, f2, f9, f10, f11⟩ := id st
    go_enter Try.func22, Try.ntmps22
    go_wp2_with fail
    refine (isWf F b 0 (n + 2) c 1 wLocal _ _ _ hT (by omega) (by rw [ByteArray.toList_eq]; rfl) h1).mono ?_
    rintro e w' ⟨rfl, rfl⟩
    go_wp2_with fail
    refine (isWf F b 0 (n + 2) c 1 wSession _ _ _ hT (by omega) (by rw [ByteArray.toList_eq]; rfl) h2).mono ?_
    rintro e w' ⟨rfl, rfl⟩
    go_wp2_with fail
    refine (isWt F b 0 (n + 2) c 1 wTransaction _ _ _ hT (by omega) (by rw [ByteArray.toList_eq]; rfl) h3).mono ?_
    rintro e w' ⟨rfl, rfl⟩
    go_wp2_with fail
    refine (isWt F b 0 (n + 2) c 2 wSnapshot _ _ _ hT (by omega) (by rw [ByteArray.toList_eq]; rfl) e4).mono ?_
    rintro e w' ⟨rfl, rfl⟩
    go_wp2
    go_end0
    exact ⟨rfl, after_snap h4 (st.kind 7), below_set (Below.refl _ _) (Nat.le_refl g) 2 _⟩

set_option maxHeartbeats 1000000 in
/-- setTransaction behind SET LOCAL. -/
theorem set22_local (F T : Nat → Bool × ByteArray) (b n c g : Nat) (tx m0 i1 : ByteArray) (k0 : Int) (s0 : Bool) (w : World) (hT : Toks w b 0 F (n + 3)) (hTF : ∀ k, F (k + 3) = T k) (hc : n + 3 ≤ c) (hb : b < g) (hn : n ≤ 4194304) (st : St w g tx k0 s0 m0 i1)
    (h1 : isW F (n + 3) 1 wLocal = true) (h3 : isW F (n + 3) 2 wTransaction = true) :
    Calls Try.prog 22 #[.pointer (some ⟨g, 0, none⟩), .slice (some ⟨b, 0, none⟩) (n + 3) c] w fun e w' => e = .returned (.tuple #[]) ∧ After T n w' g tx k0 s0 m0 i1 ∧ Below g w w' := by
  have e4 : isW F (n + 3) 3 wSnapshot = isW T n 0 wSnapshot := by
    unfold isW
    rw [show F 3 = T 0 from hTF 0]
    simp
  cases h4 : isW T n 0 wSnapshot
  · rw [h4] at e4
    by_cases hn0 : n = 0
    · have HN : Hid (n = 0) := hn0
      have hn1 : n ≤ 0 := by omega
      clear hn0
      go_enter Try.func22, Try.ntmps22
      go_wp2_with fail
      refine (isWt F b 0 (n + 3) c 1 wLocal _ _ _ hT (by omega) (by rw [ByteArray.toList_eq]; rfl) h1).mono ?_
      rintro e w' ⟨rfl, rfl⟩
      go_wp2_with fail
      refine (isWt F b 0 (n + 3) c 2 wTransaction _ _ _ hT (by omega) (by rw [ByteArray.toList_eq]; rfl) h3).mono ?_
      rintro e w' ⟨rfl, rfl⟩
      go_wp2_with fail
      refine (isWt F b 0 (n + 3) c 2 wTransaction _ _ _ hT (by omega) (by rw [ByteArray.toList_eq]; rfl) h3).mono ?_
      rintro e w' ⟨rfl, rfl⟩
      go_wp2_with fail
      refine (isWf F b 0 (n + 3) c 3 wSnapshot _ _ _ hT (by omega) (by rw [ByteArray.toList_eq]; rfl) e4).mono ?_
      rintro e w' ⟨rfl, rfl⟩
      go_wp2
      go_end0
      exact ⟨rfl, after_no h4 (Or.inl HN.out) st, Below.refl _ _⟩
    · have hT2 : Toks w b 15 T n := fun k hk => by
        have h := hT (k + 3) (by omega)
        rw [hTF k] at h
        rw [show 15 + k * 5 = 0 + (k + 3) * 5 by omega]
        exact h
      have hcc : ¬ c = 3 := by omega
      have hnn : ¬ c - 3 = 0 := by omega
      cases hok : (rmTop T n).2.2
      · go_enter Try.func22, Try.ntmps22
        go_wp2_with fail
        refine (isWt F b 0 (n + 3) c 1 wLocal _ _ _ hT (by omega) (by rw [ByteArray.toList_eq]; rfl) h1).mono ?_
        rintro e w' ⟨rfl, rfl⟩
        go_wp2_with fail
        refine (isWt F b 0 (n + 3) c 2 wTransaction _ _ _ hT (by omega) (by rw [ByteArray.toList_eq]; rfl) h3).mono ?_
        rintro e w' ⟨rfl, rfl⟩
        go_wp2_with fail
        refine (isWt F b 0 (n + 3) c 2 wTransaction _ _ _ hT (by omega) (by rw [ByteArray.toList_eq]; rfl) h3).mono ?_
        rintro e w' ⟨rfl, rfl⟩
        go_wp2_with fail
        refine (isWf F b 0 (n + 3) c 3 wSnapshot _ _ _ hT (by omega) (by rw [ByteArray.toList_eq]; rfl) e4).mono ?_
        rintro e w' ⟨rfl, rfl⟩
        go_wp2_with fail
        refine (transModes26_no T b 15 n _ g tx m0 i1 k0 s0 w hT2 hb hn st hok).mono ?_
        rintro e w' ⟨rfl, st', bg'⟩
        go_wp2
        go_end0
        exact ⟨rfl, after_no h4 (Or.inr hok) st', bg'⟩
      · go_enter Try.func22, Try.ntmps22
        go_wp2_with fail
        refine (isWt F b 0 (n + 3) c 1 wLocal _ _ _ hT (by omega) (by rw [ByteArray.toList_eq]; rfl) h1).mono ?_
        rintro e w' ⟨rfl, rfl⟩
        go_wp2_with fail
        refine (isWt F b 0 (n + 3) c 2 wTransaction _ _ _ hT (by omega) (by rw [ByteArray.toList_eq]; rfl) h3).mono ?_
        rintro e w' ⟨rfl, rfl⟩
        go_wp2_with fail
        refine (isWt F b 0 (n + 3) c 2 wTransaction _ _ _ hT (by omega) (by rw [ByteArray.toList_eq]; rfl) h3).mono ?_
        rintro e w' ⟨rfl, rfl⟩
        go_wp2_with fail
        refine (isWf F b 0 (n + 3) c 3 wSnapshot _ _ _ hT (by omega) (by rw [ByteArray.toList_eq]; rfl) e4).mono ?_
        rintro e w' ⟨rfl, rfl⟩
        go_wp2_with fail
        refine (transModes26_yes T b 15 n _ g tx m0 i1 k0 s0 w hT2 hb hn st hok).mono ?_
        rintro e w' ⟨rfl, st', bg'⟩
        go_wp2
        go_end0
        exact ⟨rfl, after_yes h4 (by omega) hok st', bg'⟩
  · rw [h4] at e4
    obtain ⟨l1, a0, a2, a9, a10, a11, f2, f9, f10, f11⟩ := id st
    go_enter Try.func22, Try.ntmps22
    go_wp2_with fail
    refine (isWt F b 0 (n + 3) c 1 wLocal _ _ _ hT (by omega) (by rw [ByteArray.toList_eq]; rfl) h1).mono ?_
    rintro e w' ⟨rfl, rfl⟩
    go_wp2_with fail
    refine (isWt F b 0 (n + 3) c 2 wTransaction _ _ _ hT (by omega) (by rw [ByteArray.toList_eq]; rfl) h3).mono ?_
    rintro e w' ⟨rfl, rfl⟩
    go_wp2_with fail
    refine (isWt F b 0 (n + 3) c 2 wTransaction _ _ _ hT (by omega) (by rw [ByteArray.toList_eq]; rfl) h3).mono ?_
    rintro e w' ⟨rfl, rfl⟩
    go_wp2_with fail
    refine (isWt F b 0 (n + 3) c 3 wSnapshot _ _ _ hT (by omega) (by rw [ByteArray.toList_eq]; rfl) e4).mono ?_
    rintro e w' ⟨rfl, rfl⟩
    go_wp2
    go_end0
    exact ⟨rfl, after_snap h4 (st.kind 7), below_set (Below.refl _ _) (Nat.le_refl g) 2 _⟩

set_option maxHeartbeats 1000000 in
/-- setTransaction behind SET SESSION. -/
theorem set22_session (F T : Nat → Bool × ByteArray) (b n c g : Nat) (tx m0 i1 : ByteArray) (k0 : Int) (s0 : Bool) (w : World) (hT : Toks w b 0 F (n + 3)) (hTF : ∀ k, F (k + 3) = T k) (hc : n + 3 ≤ c) (hb : b < g) (hn : n ≤ 4194304) (st : St w g tx k0 s0 m0 i1)
    (h1 : isW F (n + 3) 1 wLocal = false) (h2 : isW F (n + 3) 1 wSession = true) (h3 : isW F (n + 3) 2 wTransaction = true) :
    Calls Try.prog 22 #[.pointer (some ⟨g, 0, none⟩), .slice (some ⟨b, 0, none⟩) (n + 3) c] w fun e w' => e = .returned (.tuple #[]) ∧ After T n w' g tx k0 s0 m0 i1 ∧ Below g w w' := by
  have e4 : isW F (n + 3) 3 wSnapshot = isW T n 0 wSnapshot := by
    unfold isW
    rw [show F 3 = T 0 from hTF 0]
    simp
  cases h4 : isW T n 0 wSnapshot
  · rw [h4] at e4
    by_cases hn0 : n = 0
    · have HN : Hid (n = 0) := hn0
      have hn1 : n ≤ 0 := by omega
      clear hn0
      go_enter Try.func22, Try.ntmps22
      go_wp2_with fail
      refine (isWf F b 0 (n + 3) c 1 wLocal _ _ _ hT (by omega) (by rw [ByteArray.toList_eq]; rfl) h1).mono ?_
      rintro e w' ⟨rfl, rfl⟩
      go_wp2_with fail
      refine (isWt F b 0 (n + 3) c 1 wSession _ _ _ hT (by omega) (by rw [ByteArray.toList_eq]; rfl) h2).mono ?_
      rintro e w' ⟨rfl, rfl⟩
      go_wp2_with fail
      refine (isWt F b 0 (n + 3) c 2 wTransaction _ _ _ hT (by omega) (by rw [ByteArray.toList_eq]; rfl) h3).mono ?_
      rintro e w' ⟨rfl, rfl⟩
      go_wp2_with fail
      refine (isWt F b 0 (n + 3) c 2 wTransaction _ _ _ hT (by omega) (by rw [ByteArray.toList_eq]; rfl) h3).mono ?_
      rintro e w' ⟨rfl, rfl⟩
      go_wp2_with fail
      refine (isWf F b 0 (n + 3) c 3 wSnapshot _ _ _ hT (by omega) (by rw [ByteArray.toList_eq]; rfl) e4).mono ?_
      rintro e w' ⟨rfl, rfl⟩
      go_wp2
      go_end0
      exact ⟨rfl, after_no h4 (Or.inl HN.out) st, Below.refl _ _⟩
    · have hT2 : Toks w b 15 T n := fun k hk => by
        have h := hT (k + 3) (by omega)
        rw [hTF k] at h
        rw [show 15 + k * 5 = 0 + (k + 3) * 5 by omega]
        exact h
      have hcc : ¬ c = 3 := by omega
      have hnn : ¬ c - 3 = 0 := by omega
      cases hok : (rmTop T n).2.2
      · go_enter Try.func22, Try.ntmps22
        go_wp2_with fail
        refine (isWf F b 0 (n + 3) c 1 wLocal _ _ _ hT (by omega) (by rw [ByteArray.toList_eq]; rfl) h1).mono ?_
        rintro e w' ⟨rfl, rfl⟩
        go_wp2_with fail
        refine (isWt F b 0 (n + 3) c 1 wSession _ _ _ hT (by omega) (by rw [ByteArray.toList_eq]; rfl) h2).mono ?_
        rintro e w' ⟨rfl, rfl⟩
        go_wp2_with fail
        refine (isWt F b 0 (n + 3) c 2 wTransaction _ _ _ hT (by omega) (by rw [ByteArray.toList_eq]; rfl) h3).mono ?_
        rintro e w' ⟨rfl, rfl⟩
        go_wp2_with fail
        refine (isWt F b 0 (n + 3) c 2 wTransaction _ _ _ hT (by omega) (by rw [ByteArray.toList_eq]; rfl) h3).mono ?_
        rintro e w' ⟨rfl, rfl⟩
        go_wp2_with fail
        refine (isWf F b 0 (n + 3) c 3 wSnapshot _ _ _ hT (by omega) (by rw [ByteArray.toList_eq]; rfl) e4).mono ?_
        rintro e w' ⟨rfl, rfl⟩
        go_wp2_with fail
        refine (transModes26_no T b 15 n _ g tx m0 i1 k0 s0 w hT2 hb hn st hok).mono ?_
        rintro e w' ⟨rfl, st', bg'⟩
        go_wp2
        go_end0
        exact ⟨rfl, after_no h4 (Or.inr hok) st', bg'⟩
      · go_enter Try.func22, Try.ntmps22
        go_wp2_with fail
        refine (isWf F b 0 (n + 3) c 1 wLocal _ _ _ hT (by omega) (by rw [ByteArray.toList_eq]; rfl) h1).mono ?_
        rintro e w' ⟨rfl, rfl⟩
        go_wp2_with fail
        refine (isWt F b 0 (n + 3) c 1 wSession _ _ _ hT (by omega) (by rw [ByteArray.toList_eq]; rfl) h2).mono ?_
        rintro e w' ⟨rfl, rfl⟩
        go_wp2_with fail
        refine (isWt F b 0 (n + 3) c 2 wTransaction _ _ _ hT (by omega) (by rw [ByteArray.toList_eq]; rfl) h3).mono ?_
        rintro e w' ⟨rfl, rfl⟩
        go_wp2_with fail
        refine (isWt F b 0 (n + 3) c 2 wTransaction _ _ _ hT (by omega) (by rw [ByteArray.toList_eq]; rfl) h3).mono ?_
        rintro e w' ⟨rfl, rfl⟩
        go_wp2_with fail
        refine (isWf F b 0 (n + 3) c 3 wSnapshot _ _ _ hT (by omega) (by rw [ByteArray.toList_eq]; rfl) e4).mono ?_
        rintro e w' ⟨rfl, rfl⟩
        go_wp2_with fail
        refine (transModes26_yes T b 15 n _ g tx m0 i1 k0 s0 w hT2 hb hn st hok).mono ?_
        rintro e w' ⟨rfl, st', bg'⟩
        go_wp2
        go_end0
        exact ⟨rfl, after_yes h4 (by omega) hok st', bg'⟩
  · rw [h4] at e4
    obtain ⟨l1, a0, a2, a9, a10, a11, f2, f9, f10, f11⟩ := id st
    go_enter Try.func22, Try.ntmps22
    go_wp2_with fail
    refine (isWf F b 0 (n + 3) c 1 wLocal _ _ _ hT (by omega) (by rw [ByteArray.toList_eq]; rfl) h1).mono ?_
    rintro e w' ⟨rfl, rfl⟩
    go_wp2_with fail
    refine (isWt F b 0 (n + 3) c 1 wSession _ _ _ hT (by omega) (by rw [ByteArray.toList_eq]; rfl) h2).mono ?_
    rintro e w' ⟨rfl, rfl⟩
    go_wp2_with fail
    refine (isWt F b 0 (n + 3) c 2 wTransaction _ _ _ hT (by omega) (by rw [ByteArray.toList_eq]; rfl) h3).mono ?_
    rintro e w' ⟨rfl, rfl⟩
    go_wp2_with fail
    refine (isWt F b 0 (n + 3) c 2 wTransaction _ _ _ hT (by omega) (by rw [ByteArray.toList_eq]; rfl) h3).mono ?_
    rintro e w' ⟨rfl, rfl⟩
    go_wp2_with fail
    refine (isWt F b 0 (n + 3) c 3 wSnapshot _ _ _ hT (by omega) (by rw [ByteArray.toList_eq]; rfl) e4).mono ?_
    rintro e w' ⟨rfl, rfl⟩
    go_wp2
    go_end0
    exact ⟨rfl, after_snap h4 (st.kind 7), below_set (Below.refl _ _) (Nat.le_refl g) 2 _⟩

end Go.Proofs.Qxb6618616a
