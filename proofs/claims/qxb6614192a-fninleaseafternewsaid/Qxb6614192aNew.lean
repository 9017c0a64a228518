import Derived.Test.Qxb6614192aNode
namespace Go.Proofs.Qxb6614192a
open Go.RowKit

theorem pcg15 (a c : Int) (w : World) : Calls Try.prog 15 #[.int .u64 a, .int .u64 c] w fun e w' => e = .returned (.pointer (some ⟨w.heap.size, 0, none⟩)) ∧ w' = w.alloc (.cells #[.int .u64 a, .int .u64 c] 67) := by
  go_enter Try.func15, Try.ntmps15
  go_wp2_with fail
  go_ret
  exact ⟨rfl, rfl⟩
theorem rand14 (v : Nat) (w : World) : Calls Try.prog 14 #[.iface 48 (.pointer (some ⟨v, 0, none⟩))] w fun e w' => e = .returned (.pointer (some ⟨w.heap.size, 0, none⟩)) ∧ w' = w.alloc (.cells #[.iface 48 (.pointer (some ⟨v, 0, none⟩))] 65) := by
  go_enter Try.func14, Try.ntmps14
  go_wp2_with fail
  go_ret
  exact ⟨rfl, rfl⟩
theorem bytes11 (a0 a2 a3 a4 : Int) (p : Option Addr) (n c : Nat) (w : World) (hn : n ≤ 1048576) : Calls Try.prog 11 #[.int .u64 a0, .slice p n c, .int .u64 a2, .int .i64 a3, .int .u64 a4] w fun e w' => e = .returned (.bool true) ∧ w' = w := by
  have h1 : ¬ ((n : Int) > 1048576) := by omega
  have h2 : IntKind.i64.wrap (0 + (n : Int)) = n := by rw [IntKind.wrap_i64]; omega
  have h3 : IntKind.i64.wrap ((n : Int)) = n := by rw [IntKind.wrap_i64]; omega
  go_enter Try.func11, Try.ntmps11
  go_wp2_with fail
  go_ret
  exact ⟨rfl, rfl⟩
theorem bytes11_no (a0 a2 a3 a4 : Int) (p : Option Addr) (n c : Nat) (w : World) (hn : ¬ n ≤ 1048576) : Calls Try.prog 11 #[.int .u64 a0, .slice p n c, .int .u64 a2, .int .i64 a3, .int .u64 a4] w fun e w' => e = .returned (.bool false) ∧ w' = w := by
  have h1 : ((n : Int) > 1048576) := by omega
  go_enter Try.func11, Try.ntmps11
  go_wp2_with fail
  go_ret
  exact ⟨rfl, rfl⟩
end Go.Proofs.Qxb6614192a
