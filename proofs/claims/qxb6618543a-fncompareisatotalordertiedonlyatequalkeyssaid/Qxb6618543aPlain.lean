/- The plain side of the two laws on compare: no Go in sight. Candidates as plain data, the comparators, and the laws on them. -/
import GoSem.Op.String
set_option linter.unusedSimpArgs false
set_option linter.unusedVariables false
namespace Go.Proofs.Qxb6618543a

/-- A candidate as plain data. -/
structure Cd where
  ns : ByteArray
  nm : ByteArray
  ud : ByteArray
  pr : Int
  us : Int
  rep : Bool
  rq : Int
  rqd : Bool

def ci (x y : Int) : Int := if x < y then -1 else if y < x then 1 else 0
def cb (a b : Bool) : Int := if a == b then 0 else if a then 1 else -1
def csL (x y : List UInt8) : Int := if Op.bytesLess x y then -1 else if x == y then 0 else 1
def cs (x y : ByteArray) : Int := csL x.toList y.toList
/-- The first that is not zero. -/
def orL : List Int → Int
  | [] => 0
  | x :: xs => if x = 0 then orL xs else x
def or2 (x y : Int) : Int := if x = 0 then y else x
def exc (c : Cd) : Bool := c.rqd && decide (c.rq < c.us)
def reqF (l : Int) (a b : Cd) : Int := if l = 0 then orL [cb a.rep b.rep, cb (exc b) (exc a)] else 0
def beyF (a b : Cd) : Int := if a.rep then ci (b.us - b.rq) (a.us - a.rq) else 0
/-- What compare answers. -/
def cmpF (l : Int) (a b : Cd) : Int := orL [reqF l a b, ci a.pr b.pr, cb a.rep b.rep, beyF a b, cs a.ns b.ns, cs a.nm b.nm, cs a.ud b.ud]

/-! ### comparators -/
structure Good {α : Type} (f : α → α → Int) : Prop where
  range : ∀ a b, f a b = -1 ∨ f a b = 0 ∨ f a b = 1
  anti : ∀ a b, f b a = - f a b
  trans : ∀ a b c, f a b ≤ 0 → f b c ≤ 0 → f a c ≤ 0 ∧ (f a c = 0 ↔ f a b = 0 ∧ f b c = 0)

theorem Good.or {α : Type} {f g : α → α → Int} (hf : Good f) (hg : Good g) : Good (fun a b => or2 (f a b) (g a b)) where
  range a b := by
    have h1 := hf.range a b
    have h2 := hg.range a b
    simp only [or2]
    split <;> omega
  anti a b := by
    have h1 := hf.anti a b
    have h2 := hg.anti a b
    simp only [or2]
    by_cases h : f a b = 0
    · rw [if_pos h, if_pos (by omega)]; exact h2
    · rw [if_neg h, if_neg (by omega)]; exact h1
  trans a b c := by
    have h1 := hf.trans a b c
    have h2 := hg.trans a b c
    simp only [or2]
    intro p q
    by_cases x : f a b = 0
    · rw [if_pos x] at p ⊢
      by_cases y : f b c = 0
      · rw [if_pos y] at q ⊢
        have z : f a c = 0 := (h1 (by omega) (by omega)).2.2 ⟨x, y⟩
        rw [if_pos z]
        exact h2 p q
      · rw [if_neg y] at q ⊢
        have z := h1 (by omega) q
        have z' : ¬ f a c = 0 := fun k => y (z.2.1 k).2
        rw [if_neg z']
        exact ⟨z.1, fun k => absurd k z', fun k => absurd k.2 y⟩
    · rw [if_neg x] at p ⊢
      by_cases y : f b c = 0
      · rw [if_pos y] at q ⊢
        have z := h1 p (by omega)
        have z' : ¬ f a c = 0 := fun k => x (z.2.1 k).1
        rw [if_neg z']
        exact ⟨z.1, fun k => absurd k z', fun k => absurd k.1 x⟩
      · rw [if_neg y] at q ⊢
        have z := h1 p q
        have z' : ¬ f a c = 0 := fun k => x (z.2.1 k).1
        rw [if_neg z']
        exact ⟨z.1, fun k => absurd k z', fun k => absurd k.1 x⟩

theorem Good.key {α β : Type} {f : β → β → Int} (hf : Good f) (k : α → β) : Good (fun a b => f (k a) (k b)) :=
  ⟨fun _ _ => hf.range _ _, fun _ _ => hf.anti _ _, fun _ _ _ => hf.trans _ _ _⟩

theorem good_zero {α : Type} : Good (fun _ _ : α => (0 : Int)) := ⟨fun _ _ => by simp, fun _ _ => by simp, fun _ _ _ => by simp⟩

theorem good_ci : Good ci where
  range a b := by unfold ci; split <;> (try split) <;> omega
  anti a b := by unfold ci; split <;> (try split) <;> (try split) <;> omega
  trans a b c := by
    unfold ci
    by_cases h1 : a < b <;> by_cases h2 : b < a <;> by_cases h3 : b < c <;> by_cases h4 : c < b <;> by_cases h5 : a < c <;> by_cases h6 : c < a <;> simp [*] <;> omega

theorem good_cb : Good cb where
  range a b := by cases a <;> cases b <;> decide
  anti a b := by cases a <;> cases b <;> decide
  trans a b c := by cases a <;> cases b <;> cases c <;> decide

theorem bytesLess_lt : ∀ (x y : List UInt8), Op.bytesLess x y = decide (x < y)
  | [], [] => by simp [Op.bytesLess]
  | _ :: _, [] => by simp [Op.bytesLess]
  | [], _ :: _ => by simp [Op.bytesLess]
  | a :: x, b :: y => by
    rw [Op.bytesLess, bytesLess_lt x y]
    simp only [List.cons_lt_cons_iff]
    by_cases h1 : a < b <;> by_cases h2 : a = b <;> by_cases h3 : x < y <;> simp [h1, h2, h3]

theorem lt_irr (x : List UInt8) : ¬ x < x := List.lt_irrefl x
theorem lt_tr {x y z : List UInt8} (h : x < y) (k : y < z) : x < z := List.lt_trans h k
theorem lt_tri (x y : List UInt8) : x < y ∨ x = y ∨ y < x := by
  by_cases h : x < y
  · exact Or.inl h
  · by_cases k : y < x
    · exact Or.inr (Or.inr k)
    · exact Or.inr (Or.inl (List.le_antisymm (List.not_lt.1 k) (List.not_lt.1 h)))

theorem csL_lt {x y : List UInt8} (h : x < y) : csL x y = -1 := by simp [csL, bytesLess_lt, h]
theorem csL_eq (x : List UInt8) : csL x x = 0 := by simp [csL, bytesLess_lt]
theorem csL_gt {x y : List UInt8} (h : y < x) : csL x y = 1 := by
  have h1 : ¬ x < y := fun k => lt_irr _ (lt_tr h k)
  have h2 : ¬ x = y := fun k => lt_irr x (by rw [← k] at h; exact h)
  simp [csL, bytesLess_lt, h1, h2]
theorem csL_zero {x y : List UInt8} : csL x y = 0 ↔ x = y := by
  constructor
  · intro h
    rcases lt_tri x y with k | k | k
    · rw [csL_lt k] at h; omega
    · exact k
    · rw [csL_gt k] at h; omega
  · rintro rfl; exact csL_eq _

theorem good_csL : Good csL where
  range a b := by rcases lt_tri a b with k | rfl | k <;> simp [csL_lt, csL_gt, csL_eq, *]
  anti a b := by rcases lt_tri a b with k | rfl | k <;> simp [csL_lt, csL_gt, csL_eq, *]
  trans a b c := by
    rcases lt_tri a b with k | rfl | k
    · rcases lt_tri b c with j | rfl | j
      · simp [csL_lt k, csL_lt j, csL_lt (lt_tr k j)]
      · simp [csL_lt k, csL_eq]
      · simp [csL_lt k, csL_gt j]
    · rcases lt_tri a c with j | rfl | j
      · simp [csL_lt j, csL_eq]
      · simp [csL_eq]
      · simp [csL_gt j, csL_eq]
    · simp [csL_gt k]

theorem good_cs : Good cs := good_csL.key (fun b : ByteArray => b.toList)

/-- Reported first; among reported ones the larger usage beyond request first. -/
def repBey (a b : Cd) : Int := or2 (cb a.rep b.rep) (beyF a b)
theorem good_repBey : Good repBey where
  range a b := by
    have := good_ci.range (b.us - b.rq) (a.us - a.rq)
    unfold repBey or2 beyF
    cases a.rep <;> cases b.rep <;> simp [cb] <;> omega
  anti a b := by
    have := good_ci.anti (b.us - b.rq) (a.us - a.rq)
    unfold repBey or2 beyF
    cases ha : a.rep <;> cases hb : b.rep <;> simp [cb] <;> omega
  trans a b c := by
    have h1 := good_ci.anti (b.us - b.rq) (a.us - a.rq)
    have h2 := good_ci.anti (c.us - c.rq) (b.us - b.rq)
    have h3 := good_ci.anti (c.us - c.rq) (a.us - a.rq)
    have h4 := good_ci.trans (c.us - c.rq) (b.us - b.rq) (a.us - a.rq)
    unfold repBey or2 beyF
    cases ha : a.rep <;> cases hb : b.rep <;> cases hc : c.rep <;> simp [cb] <;> omega

theorem orL_two (x y : Int) : orL [x, y] = or2 x y := by
  unfold orL orL orL or2; split <;> simp_all
theorem or2_zero (x : Int) : or2 0 x = x := by simp [or2]
theorem orL_seven (a b c d e f g : Int) : orL [a, b, c, d, e, f, g] = or2 a (or2 b (or2 (or2 c d) (or2 e (or2 f g)))) := by
  simp only [orL, or2]
  by_cases ha : a = 0 <;> by_cases hb : b = 0 <;> by_cases hc : c = 0 <;> by_cases hd : d = 0 <;> by_cases he : e = 0 <;> by_cases hf : f = 0 <;> by_cases hg : g = 0 <;> simp [*]

theorem good_req (l : Int) : Good (reqF l) := by
  by_cases h : l = 0
  · have e : reqF l = fun a b => or2 (cb a.rep b.rep) (cb (exc b) (exc a)) := by
      funext a b; simp only [reqF, if_pos h, orL_two]
    rw [e]
    refine (good_cb.key (fun c : Cd => c.rep)).or (g := fun a b => cb (exc b) (exc a)) ?_
    have hk := good_cb.key exc
    refine ⟨fun a b => hk.range b a, fun a b => hk.anti b a, fun a b c h1 h2 => ?_⟩
    have := hk.trans c b a h2 h1
    exact ⟨this.1, this.2.trans ⟨fun ⟨x, y⟩ => ⟨y, x⟩, fun ⟨x, y⟩ => ⟨y, x⟩⟩⟩
  · have e : reqF l = fun _ _ => 0 := by funext a b; simp only [reqF, if_neg h]
    rw [e]; exact good_zero

theorem cmpF_eq (l : Int) (a b : Cd) : cmpF l a b = or2 (reqF l a b) (or2 (ci a.pr b.pr) (or2 (repBey a b) (or2 (cs a.ns b.ns) (or2 (cs a.nm b.nm) (cs a.ud b.ud))))) := by
  rw [cmpF, orL_seven]; rfl

theorem good_cmp (l : Int) : Good (cmpF l) := by
  have e : cmpF l = fun a b => or2 (reqF l a b) (or2 (ci a.pr b.pr) (or2 (repBey a b) (or2 (cs a.ns b.ns) (or2 (cs a.nm b.nm) (cs a.ud b.ud))))) := by
    funext a b; exact cmpF_eq l a b
  rw [e]
  exact (good_req l).or ((good_ci.key (fun c : Cd => c.pr)).or (good_repBey.or ((good_cs.key (fun c : Cd => c.ns)).or ((good_cs.key (fun c : Cd => c.nm)).or (good_cs.key (fun c : Cd => c.ud))))))

/-- Agreement on every key that the ranking weighs. -/
def tied (led : Bool) (a b : Cd) : Bool :=
  a.ns.toList == b.ns.toList && a.nm.toList == b.nm.toList && a.ud.toList == b.ud.toList && a.pr == b.pr && a.rep == b.rep && !(a.rep && a.us - a.rq != b.us - b.rq) && !(led && exc a != exc b)

theorem or2_eq_zero {x y : Int} : or2 x y = 0 ↔ x = 0 ∧ y = 0 := by unfold or2; split <;> omega
theorem ci_zero {x y : Int} : ci x y = 0 ↔ x = y := by unfold ci; split <;> (try split) <;> omega
theorem cb_zero {x y : Bool} : cb x y = 0 ↔ x = y := by cases x <;> cases y <;> decide
theorem cs_zero {x y : ByteArray} : cs x y = 0 ↔ x.toList = y.toList := csL_zero

theorem cmp_tied (l : Int) (a b : Cd) : (cmpF l a b == 0) = tied (l == 0) a b := by
  rw [Bool.eq_iff_iff, beq_iff_eq, cmpF_eq]
  by_cases h : l = 0
  · subst h
    simp only [or2_eq_zero, repBey, ci_zero, cb_zero, cs_zero, reqF, beyF, tied, orL_two, if_true]
    cases ha : a.rep <;> cases hb : b.rep <;> cases ea : exc a <;> cases eb : exc b <;> simp [ci_zero] <;> grind
  · have h' : (l == 0) = false := by simp [h]
    simp only [or2_eq_zero, repBey, ci_zero, cb_zero, cs_zero, reqF, beyF, tied, orL_two, if_neg h, h']
    cases ha : a.rep <;> cases hb : b.rep <;> simp [ci_zero] <;> grind

end Go.Proofs.Qxb6618543a
