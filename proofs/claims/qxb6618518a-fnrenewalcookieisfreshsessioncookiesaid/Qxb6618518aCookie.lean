/- The contract of (*Renewal).Cookie, shared by the two laws of this seat. -/
import Derived.Test.Qxb6618518aProg
import Derived.WalkKit
import Derived.WalkSpells
import Derived.WalkLawsBesides
import Derived.RegionTactic
import Derived.ChangeAlike
namespace Go.Proofs.Qxb6618518a
open Go.RowKit

set_option maxHeartbeats 400000 in
theorem cookie14 (t p : ByteArray) (s : Bool) (b o : Nat) (w : World) (h0 : w.cell? ⟨b, o, none⟩ = some (.string t)) (h1 : w.cell? ⟨b, o+1, none⟩ = some (.string p)) (h2 : w.cell? ⟨b, o+1+1, none⟩ = some (.bool s)) :
    Calls Try.prog 14 #[.pointer (some ⟨b, o, none⟩)] w fun e w' => e = .returned (.pointer (some ⟨w.heap.size, 0, none⟩)) ∧ w' = (w.alloc (.cells #[.string ⟨#[85, 82, 73, 83, 105, 103, 110, 105, 110, 103, 80, 97, 99, 107, 97, 103, 101]⟩, .string t, .bool false, .string p, .string ⟨#[]⟩, .int .u64 0, .int .i64 0, .pointer none, .string ⟨#[]⟩, .int .i64 0, .bool s, .bool false, .int .i64 0, .bool false, .string ⟨#[]⟩, .slice none 0 0] 41)).drew := by
  go_enter Try.func14, Try.ntmps14
  go_wp2
  go_region
  go_wp2
  go_ret
  exact ⟨rfl, rfl⟩

end Go.Proofs.Qxb6618518a
