/- The walk of FnRenewalCookieIsFreshSessionCookie: contracts of its callees, then the law's own text. -/
import Derived.Test.Qxb6618518aCookie
import Derived.WalkKit
import Derived.WalkSpells
import Derived.WalkLawsBesides
import Derived.RegionTactic
import Derived.ChangeAlike
import Derived.Deep.RegionHeld3
import Derived.LaidEql
namespace Go.Proofs.Qxb6618518a
open Go.RowKit

theorem run_eql_ptr_other {P : Program} (w : World) {tp te : TypeId} {j : TypeInfo} {a b : Addr} {ca cb : Array Value} {ta tb : TypeId}
    (hp : P.underlying tp = some (.pointer te)) (hte : P.info? te = some j) (hsz : j.size ≠ 0)
    (hne : a ≠ b) (ha : w.heap[a.block]? = some (.cells ca ta (0, 0))) (hb : w.heap[b.block]? = some (.cells cb tb (0, 0))) :
    (binOp .eql tp (.pointer (some a)) (.pointer (some b))).run P w = .ok (.bool false) w := by
  have h : ∀ d : Nat, (Op.equalIn (d + 1) tp (.pointer (some a)) (.pointer (some b))).run P w = .ok false w := fun d => by
    simp [Op.equalIn, run_underlying hp, sizeOf, typeInfo, hte, hsz, run_sameAddr_other w hne ha hb]
  simp only [binOp]
  simp [Op.equal, Op.maxDepth, h 9999]

theorem neq3 (w : World) (x0 x1 x2 : Array Value) (t0 t1 t2 : TypeId) :
    (binOp .eql 31 (.pointer (some ⟨w.heap.size + 1, 0, none⟩)) (.pointer (some ⟨w.heap.size + 1 + 1, 0, none⟩))).run Try.prog (((w.alloc (.cells x0 t0)).alloc (.cells x1 t1)).alloc (.cells x2 t2)).drew.drew = .ok (.bool false) (((w.alloc (.cells x0 t0)).alloc (.cells x1 t1)).alloc (.cells x2 t2)).drew.drew := by
  refine run_eql_ptr_other (te := 41) (j := Try.t41) (ca := x1) (cb := x2) (ta := t1) (tb := t2) _ Try.underlying31 (by kernel_rfl) (by decide) (by simp) ?_ ?_
  · show (((w.heap.push _).push _).push _)[w.heap.size + 1]? = _
    simp only [Array.getElem?_push, Array.size_push]
    rw [if_neg (by omega), if_pos trivial]
  · show (((w.heap.push _).push _).push _)[w.heap.size + 1 + 1]? = _
    simp only [Array.getElem?_push, Array.size_push]
    rw [if_pos trivial]

set_option maxHeartbeats 400000 in
theorem bytes13 (a0 a1 : ByteArray) (a2 : Bool) (w0 : a0.size ≤ maxLen) (w1 : a1.size ≤ maxLen) (w : World) :
    Calls Try.prog 13 #[.string a0, .string a1, .bool a2] w fun e w' => ∃ b, e = .returned (.bool b) ∧ w = w' := by
  unfold maxLen at w0 w1
  go_enter Try.func13, Try.ntmps13
  go_wp2
  all_goals (go_ret; exact ⟨_, rfl, rfl⟩)

set_option maxHeartbeats 400000 in
theorem isZero16 (b o : Nat) (w : World) (h0 : w.cell? ⟨b, o+1+1+1+1+1, none⟩ = some (.int .u64 0)) (h1 : w.cell? ⟨b, o+1+1+1+1+1+1, none⟩ = some (.int .i64 0)) (h2 : w.cell? ⟨b, o+1+1+1+1+1+1+1, none⟩ = some (.pointer none)) :
    Calls Try.prog 16 #[.pointer (some ⟨b, o, none⟩)] w fun e w' => e = .returned (.bool true) ∧ w' = w.alloc (.cells #[.int .u64 0, .int .i64 0, .pointer none] 37) := by
  go_enter Try.func16, Try.ntmps16
  go_wp2
  go_ret
  exact ⟨rfl, rfl⟩

set_option maxHeartbeats 400000 in
theorem token15 (t p : ByteArray) (s : Bool) (w : World) :
    Calls Try.prog 15 #[.string ⟨#[85, 82, 73, 83, 105, 103, 110, 105, 110, 103, 80, 97, 99, 107, 97, 103, 101]⟩, .string t, .string p, .bool s, .string ⟨#[]⟩, .string ⟨#[]⟩, .string ⟨#[]⟩, .int .i64 0, .bool false, .bool false, .bool false, .bool true, .bool true, .int .i64 0, .string t, .string p, .bool s] w fun e w' => e = .returned (.bool true) ∧ w = w' := by
  go_enter Try.func15, Try.ntmps15
  go_wp2

  go_ret
  exact ⟨by simp, rfl⟩

set_option maxRecDepth 100000 in
set_option maxHeartbeats 6000000 in
theorem law5 (a0 : ByteArray) (a1 : ByteArray) (a2 : Bool) (w0 : a0.size ≤ maxLen) (w1 : a1.size ≤ maxLen) (w : World) :
    Calls Try.prog 5 #[.string a0, .string a1, .bool a2] w fun e w' => e = .returned (.bool true) ∧ Grown w w' := by
  go_enter Try.func5, Try.ntmps5
  go_wp2_with fail
  refine (bytes13 a0 a1 a2 w0 w1 w).mono ?_
  rintro e w' ⟨b, rfl, rfl⟩
  unfold maxLen at w0 w1
  cases b
  · go_wp2
    go_ret
    exact ⟨rfl, Grown.refl _⟩
  · by_cases c0 : 65536 < a0.size
    · go_wp2
      go_ret
      exact ⟨rfl, Grown.refl _⟩
    by_cases c1 : 65536 < a1.size
    · go_wp2
      go_ret
      exact ⟨rfl, Grown.refl _⟩
    go_wp2_with fail
    refine (cookie14 a0 a1 a2 w.heap.size 0 _ (by go_simp) (by go_simp) (by go_simp)).mono ?_
    rintro e w' ⟨rfl, rfl⟩
    go_wp2_with fail
    refine (cookie14 a0 a1 a2 w.heap.size 0 _ (by go_simp) (by go_simp) (by go_simp)).mono ?_
    rintro e w' ⟨rfl, rfl⟩
    have he := fun x0 x1 x2 t0 t1 t2 => neq3 w x0 x1 x2 t0 t1 t2
    go_wp2
    go_region_held3 (fun w' => w'.cell? ⟨w.heap.size + 1, 0, none⟩ = some (.string ⟨#[85, 82, 73, 83, 105, 103, 110, 105, 110, 103, 80, 97, 99, 107, 97, 103, 101]⟩) ∧ w'.cell? ⟨w.heap.size + 1, 1, none⟩ = some (.string a0) ∧ w'.cell? ⟨w.heap.size + 1, 2, none⟩ = some (.bool false) ∧ w'.cell? ⟨w.heap.size + 1, 3, none⟩ = some (.string a1) ∧ w'.cell? ⟨w.heap.size + 1, 4, none⟩ = some (.string ⟨#[]⟩) ∧ w'.cell? ⟨w.heap.size + 1, 5, none⟩ = some (.int .u64 0) ∧ w'.cell? ⟨w.heap.size + 1, 6, none⟩ = some (.int .i64 0) ∧ w'.cell? ⟨w.heap.size + 1, 7, none⟩ = some (.pointer none) ∧ w'.cell? ⟨w.heap.size + 1, 8, none⟩ = some (.string ⟨#[]⟩) ∧ w'.cell? ⟨w.heap.size + 1, 9, none⟩ = some (.int .i64 0) ∧ w'.cell? ⟨w.heap.size + 1, 10, none⟩ = some (.bool a2) ∧ w'.cell? ⟨w.heap.size + 1, 11, none⟩ = some (.bool false) ∧ w'.cell? ⟨w.heap.size + 1, 12, none⟩ = some (.int .i64 0) ∧ w'.cell? ⟨w.heap.size + 1, 13, none⟩ = some (.bool false) ∧ w'.cell? ⟨w.heap.size + 1, 14, none⟩ = some (.string ⟨#[]⟩) ∧ w'.cell? ⟨w.heap.size + 1, 15, none⟩ = some (.slice none 0 0)) (go_keep)
      (first
        | (go_at_call 16; refine (isZero16 (w.heap.size + 1) 0 _ ?_ ?_ ?_).mono ?_; (simp [*]); (simp [*]); (simp [*]); rintro e w' ⟨rfl, rfl⟩)
        | (go_at_call 15; refine (token15 a0 a1 a2 _).mono ?_; rintro e w' ⟨rfl, rfl⟩))
    go_wp2
    go_region_held3 (fun w' => w'.cell? ⟨w.heap.size + 1 + 1, 0, none⟩ = some (.string ⟨#[85, 82, 73, 83, 105, 103, 110, 105, 110, 103, 80, 97, 99, 107, 97, 103, 101]⟩) ∧ w'.cell? ⟨w.heap.size + 1 + 1, 1, none⟩ = some (.string a0) ∧ w'.cell? ⟨w.heap.size + 1 + 1, 2, none⟩ = some (.bool false) ∧ w'.cell? ⟨w.heap.size + 1 + 1, 3, none⟩ = some (.string a1) ∧ w'.cell? ⟨w.heap.size + 1 + 1, 4, none⟩ = some (.string ⟨#[]⟩) ∧ w'.cell? ⟨w.heap.size + 1 + 1, 5, none⟩ = some (.int .u64 0) ∧ w'.cell? ⟨w.heap.size + 1 + 1, 6, none⟩ = some (.int .i64 0) ∧ w'.cell? ⟨w.heap.size + 1 + 1, 7, none⟩ = some (.pointer none) ∧ w'.cell? ⟨w.heap.size + 1 + 1, 8, none⟩ = some (.string ⟨#[]⟩) ∧ w'.cell? ⟨w.heap.size + 1 + 1, 9, none⟩ = some (.int .i64 0) ∧ w'.cell? ⟨w.heap.size + 1 + 1, 10, none⟩ = some (.bool a2) ∧ w'.cell? ⟨w.heap.size + 1 + 1, 11, none⟩ = some (.bool false) ∧ w'.cell? ⟨w.heap.size + 1 + 1, 12, none⟩ = some (.int .i64 0) ∧ w'.cell? ⟨w.heap.size + 1 + 1, 13, none⟩ = some (.bool false) ∧ w'.cell? ⟨w.heap.size + 1 + 1, 14, none⟩ = some (.string ⟨#[]⟩) ∧ w'.cell? ⟨w.heap.size + 1 + 1, 15, none⟩ = some (.slice none 0 0)) (first | go_simp | go_keep)
      (first
        | (go_at_call 16; refine (isZero16 (w.heap.size + 1 + 1) 0 _ ?_ ?_ ?_).mono ?_; (simp [*]); (simp [*]); (simp [*]); rintro e w' ⟨rfl, rfl⟩)
        | (go_at_call 15; refine (token15 a0 a1 a2 _).mono ?_; rintro e w' ⟨rfl, rfl⟩))
    go_wp2
    go_ret
    exact ⟨by simp, by repeat (first | exact Grown.refl _ | apply Grown.drew | apply Grown.alloc)⟩

end Go.Proofs.Qxb6618518a
