/- The plain side of readModes and setTransaction: tokens as a function of their place, what is read of them. No Go in sight. -/
import GoSem.Op.String
set_option linter.unusedSimpArgs false
set_option linter.unusedVariables false
namespace Go.Proofs.Qxb6618616a

/-- A token as far as the reading looks: is it a word, its text. -/
def isW (T : Nat → Bool × ByteArray) (n i : Nat) (s : List UInt8) : Bool := decide (i < n) && (T i).1 && (T i).2.toList == s

def sIsolation : List UInt8 := [105, 115, 111, 108, 97, 116, 105, 111, 110]
def sLevel : List UInt8 := [108, 101, 118, 101, 108]
def sSerializable : List UInt8 := [115, 101, 114, 105, 97, 108, 105, 122, 97, 98, 108, 101]
def sRepeatable : List UInt8 := [114, 101, 112, 101, 97, 116, 97, 98, 108, 101]
def sRead : List UInt8 := [114, 101, 97, 100]
def sCommitted : List UInt8 := [99, 111, 109, 109, 105, 116, 116, 101, 100]
def sUncommitted : List UInt8 := [117, 110, 99, 111, 109, 109, 105, 116, 116, 101, 100]
def sOnly : List UInt8 := [111, 110, 108, 121]
def sWrite : List UInt8 := [119, 114, 105, 116, 101]
def sDeferrable : List UInt8 := [100, 101, 102, 101, 114, 114, 97, 98, 108, 101]
def sNot : List UInt8 := [110, 111, 116]
def mReadOnly : ByteArray := ⟨#[82, 69, 65, 68, 32, 79, 78, 76, 89]⟩
def mReadWrite : ByteArray := ⟨#[82, 69, 65, 68, 32, 87, 82, 73, 84, 69]⟩
def mDeferrable : ByteArray := ⟨#[68, 69, 70, 69, 82, 82, 65, 66, 76, 69]⟩
def mNotDeferrable : ByteArray := ⟨#[78, 79, 84, 32, 68, 69, 70, 69, 82, 82, 65, 66, 76, 69]⟩

/-- One mode read at place i: how far it goes, what it adds, what it makes of 'serializable'; none: the list is none. -/
def mode (T : Nat → Bool × ByteArray) (n i : Nat) (ser : Bool) : Option (Nat × List ByteArray × Bool) :=
  if isW T n i sIsolation && isW T n (i + 1) sLevel then
    if isW T n (i + 2) sSerializable then some (3, [], true)
    else if isW T n (i + 2) sRepeatable && isW T n (i + 2 + 1) sRead then some (4, [], false)
    else if isW T n (i + 2) sRead && (isW T n (i + 2 + 1) sCommitted || isW T n (i + 2 + 1) sUncommitted) then some (4, [], false)
    else none
  else if isW T n i sRead && isW T n (i + 1) sOnly then some (2, [mReadOnly], ser)
  else if isW T n i sRead && isW T n (i + 1) sWrite then some (2, [mReadWrite], ser)
  else if isW T n i sDeferrable then some (1, [mDeferrable], ser)
  else if isW T n i sNot && isW T n (i + 1) sDeferrable then some (2, [mNotDeferrable], ser)
  else none

/-- Is there a comma at place j? -/
def comma (T : Nat → Bool × ByteArray) (n j : Nat) : Bool := decide (j < n) && !(T j).1 && (T j).2.toList == [44]

/-- What readModes answers from place i on, with modes ms and 'serializable' ser gathered so far. -/
def rm (T : Nat → Bool × ByteArray) (n : Nat) : Nat → Nat → List ByteArray → Bool → List ByteArray × Bool × Bool
  | 0, _, _, _ => ([], false, false)
  | f + 1, i, ms, ser =>
    if i < n then
      match mode T n i ser with
      | none => ([], false, false)
      | some (d, m, ser') =>
        if comma T n (i + d) then
          if i + d + 1 = n then ([], false, false) else rm T n f (i + d + 1) (ms ++ m) ser'
        else rm T n f (i + d) (ms ++ m) ser'
    else (ms, ser, true)

def rmTop (T : Nat → Bool × ByteArray) (n : Nat) : List ByteArray × Bool × Bool := rm T n (n + 1) 0 [] false

theorem mode_pos {T : Nat → Bool × ByteArray} {n i : Nat} {ser : Bool} {d : Nat} {m : List ByteArray} {s : Bool} (h : mode T n i ser = some (d, m, s)) : 1 ≤ d := by
  unfold mode at h
  repeat' split at h
  all_goals first | (simp at h; omega) | (cases h)

theorem mode_one {T : Nat → Bool × ByteArray} {n i : Nat} {ser : Bool} {d : Nat} {m : List ByteArray} {s : Bool} (h : mode T n i ser = some (d, m, s)) : m.length ≤ d ∧ ∀ x ∈ m, x.size ≤ 14 := by
  unfold mode at h
  repeat' split at h
  all_goals first
    | (cases h; done)
    | (simp only [Option.some.injEq, Prod.mk.injEq] at h; obtain ⟨rfl, rfl, rfl⟩ := h; refine ⟨by simp, fun x hx => ?_⟩; simp at hx; done)
    | (simp only [Option.some.injEq, Prod.mk.injEq] at h; obtain ⟨rfl, rfl, rfl⟩ := h; refine ⟨by simp, fun x hx => ?_⟩; simp at hx; subst hx; decide)

end Go.Proofs.Qxb6618616a
