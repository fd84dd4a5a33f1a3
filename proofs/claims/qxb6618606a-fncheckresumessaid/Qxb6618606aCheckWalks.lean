import Derived.Test.Qxb6618606aProg
import Derived.WalkKit
import Derived.WalkLawsBesides
import Derived.WalkSpells
namespace Go.Proofs.Qxb6618606a
open Go.RowKit

def fresh (n : Int) : Obj := .cells #[.int .u64 0, .int .i64 0, .pointer none, .bool false, .map none, .bool false, .bool false, .bool false, .int .i64 0, .slice none 0 0, .slice none 0 0, .map none, .slice none 0 0, .map none, .map none, .map none, .map none, .map none, .map none, .map none, .map none, .map none, .map none, .slice none 0 0, .bool false, .map none, .int .i64 0, .int .i64 n, .int .i64 0, .int .i64 0] 132

theorem new_any (n : Int) (w : World) :
    Calls Try.prog 29 #[.int .i64 n] w fun e w' => e = .returned (.pointer (some ⟨w.heap.size, 0, none⟩)) ∧ w' = w.alloc (fresh n) := by
  go_enter Try.func29, Try.ntmps29
  go_wp2
  go_ret
  exact ⟨rfl, rfl⟩

theorem spend_any (c : Int) (b : Nat) (w : World) (h1 : -9223372036854775808 < c) (h2 : c ≤ 9223372036854775807)
    (hc : w.cell? ⟨b, 27, none⟩ = some (.int .i64 c)) (hf : w.frozen? ⟨b, 27, none⟩ = false) :
    Calls Try.prog 43 #[.pointer (some ⟨b, 0, none⟩), .int .i64 1] w fun e w' => e = .returned (.bool (decide (1 ≤ c))) ∧ w' = w.setCell ⟨b, 27, none⟩ (.int .i64 (c - 1)) := by
  go_enter Try.func43, Try.ntmps43
  go_wp2
  go_ret
  exact ⟨rfl, rfl⟩

theorem check_any (c : Int) (b : Nat) (w : World) (h1 : -9223372036854775808 < c) (h2 : c ≤ 9223372036854775807)
    (hc : w.cell? ⟨b, 27, none⟩ = some (.int .i64 c)) (hf : w.frozen? ⟨b, 27, none⟩ = false) :
    Calls Try.prog 30 #[.pointer (some ⟨b, 0, none⟩)] w fun e w' => e = .returned (.bool (decide (1 ≤ c))) ∧ w' = w.setCell ⟨b, 27, none⟩ (.int .i64 (c - 1)) := by
  go_enter Try.func30, Try.ntmps30
  go_wp2_with (first | (go_at_call 43; refine (spend_any c b _ h1 h2 hc hf).mono ?_; rintro e w' ⟨rfl, rfl⟩) | go_in)
  go_ret
  exact ⟨rfl, rfl⟩

theorem checks_any (c : Int) (b : Nat) (w : World) (hc : w.cell? ⟨b, 27, none⟩ = some (.int .i64 c)) :
    Calls Try.prog 31 #[.pointer (some ⟨b, 0, none⟩)] w fun e w' => e = .returned (.int .i64 c) ∧ w' = w := by
  go_enter Try.func31, Try.ntmps31
  go_wp2
  go_ret
  exact ⟨rfl, rfl⟩
end Go.Proofs.Qxb6618606a
