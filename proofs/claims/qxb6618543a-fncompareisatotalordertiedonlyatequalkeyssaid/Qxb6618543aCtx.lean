/- What the laws' walks carry from world to world: a boxed Cand, a Pod, a boxed Candidate; each stays where only new memory is made. -/
import Derived.Test.Qxb6618543aParts
import Derived.Test.Qxb6618543aArgs
import Derived.WalkKit
import Derived.WalkSpells
import Derived.WalkLawsBesides
set_option linter.unusedSimpArgs false
set_option linter.unusedVariables false
namespace Go.Proofs.Qxb6618543a
open Go.RowKit

def At (W : World) (n : Nat) (c : Cd) : Prop := n < W.heap.size ∧ W.cell? ⟨n, 0, none⟩ = some (.string c.ns) ∧ W.cell? ⟨n, 1, none⟩ = some (.string c.nm) ∧ W.cell? ⟨n, 2, none⟩ = some (.string c.ud) ∧ W.cell? ⟨n, 3, none⟩ = some (.int .i32 c.pr) ∧ W.cell? ⟨n, 4, none⟩ = some (.int .i64 c.us) ∧ W.cell? ⟨n, 5, none⟩ = some (.bool c.rep) ∧ W.cell? ⟨n, 6, none⟩ = some (.int .i64 c.rq) ∧ W.cell? ⟨n, 7, none⟩ = some (.bool c.rqd)
theorem At.step {W W' : World} {n : Nat} {c : Cd} (h : At W n c) (hb : Below W.heap.size W W') : At W' n c :=
  ⟨Nat.lt_of_lt_of_le h.1 hb.size, old hb h.1 h.2.1, old hb h.1 h.2.2.1, old hb h.1 h.2.2.2.1, old hb h.1 h.2.2.2.2.1, old hb h.1 h.2.2.2.2.2.1, old hb h.1 h.2.2.2.2.2.2.1, old hb h.1 h.2.2.2.2.2.2.2.1, old hb h.1 h.2.2.2.2.2.2.2.2⟩

theorem Joins1 (w : World) (o : Obj) : Below w.heap.size w (w.alloc o) := (Below.refl _ _).alloc (Nat.le_refl _) o
def Pod (W : World) (p : Nat) (c : Cd) : Prop := p < W.heap.size ∧ W.cell? ⟨p, 0, none⟩ = some (.string c.ns) ∧ W.cell? ⟨p, 1, none⟩ = some (.string c.nm) ∧ W.cell? ⟨p, 2, none⟩ = some (.string c.ud) ∧ W.cell? ⟨p, 3, none⟩ = some (.int .i32 c.pr)
theorem Pod.step {W W' : World} {p : Nat} {c : Cd} (h : Pod W p c) (hb : Below W.heap.size W W') : Pod W' p c :=
  ⟨Nat.lt_of_lt_of_le h.1 hb.size, old hb h.1 h.2.1, old hb h.1 h.2.2.1, old hb h.1 h.2.2.2.1, old hb h.1 h.2.2.2.2⟩
def Cand (W : World) (n p : Nat) (c : Cd) : Prop := n < W.heap.size ∧ W.cell? ⟨n, 0, none⟩ = some (.pointer (some ⟨p, 0, none⟩)) ∧ W.cell? ⟨n, 1, none⟩ = some (.int .i64 c.us) ∧ W.cell? ⟨n, 2, none⟩ = some (.bool c.rep) ∧ W.cell? ⟨n, 3, none⟩ = some (.int .i64 c.rq) ∧ W.cell? ⟨n, 4, none⟩ = some (.bool c.rqd)
theorem Cand.step {W W' : World} {n p : Nat} {c : Cd} (h : Cand W n p c) (hb : Below W.heap.size W W') : Cand W' n p c :=
  ⟨Nat.lt_of_lt_of_le h.1 hb.size, old hb h.1 h.2.1, old hb h.1 h.2.2.1, old hb h.1 h.2.2.2.1, old hb h.1 h.2.2.2.2.1, old hb h.1 h.2.2.2.2.2⟩

end Go.Proofs.Qxb6618543a
