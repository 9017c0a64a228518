import Derived.Test.Qxb6614192aNew
namespace Go.Proofs.Qxb6614192a
open Go.RowKit
/-- A node as New builds it. -/
def fresh (id term ticks : Int) (rb : Nat) : N :=
  { id := id, peers := .slice none 0 0, voters := .slice none 0 0, voter := false, rb := rb, ticks := ticks, term := term, vote := 0, dirty := false, role := 0, leader := 0, elapsed := 0, timeout := 0, granted := .map none, log := .slice none 0 0, commit := 0, progress := .map none, beat := 0, beatOut := false }

/-- The node's own build, under a name that the walk does not lay open. -/
def build58 (parts : Array (Nat × Value)) : Sem Value := Instr.build 58 parts
theorem build58_eq (parts : Array (Nat × Value)) : Instr.build 58 parts = build58 parts := rfl
set_option maxRecDepth 100000 in
theorem node_built (id term ticks : Int) (rb : Nat) : Try.prog.built 58 [(0, .int .u64 id), (5, .pointer (some ⟨rb, 0, none⟩)), (7, .int .i64 ticks), (8, .agg #[.int .u64 term, .int .u64 0, .int .u64 0]), (17, .slice none 0 0), (18, .int .u64 0), (19, .int .u64 0), (20, .int .u64 0), (21, .int .u64 0), (22, .int .u64 0), (23, .agg #[.int .u64 0, .int .u64 0, .nilIface]), (36, .int .u64 0)] = some (nodeCells (fresh id term ticks rb)) := by kernel_rfl
theorem node_build (id term ticks : Int) (rb : Nat) (w : World) : (build58 #[(0, .int .u64 id), (5, .pointer (some ⟨rb, 0, none⟩)), (7, .int .i64 ticks), (8, .agg #[.int .u64 term, .int .u64 0, .int .u64 0]), (17, .slice none 0 0), (18, .int .u64 0), (19, .int .u64 0), (20, .int .u64 0), (21, .int .u64 0), (22, .int .u64 0), (23, .agg #[.int .u64 0, .int .u64 0, .nilIface]), (36, .int .u64 0)]).run Try.prog w = .ok (.agg (nodeCells (fresh id term ticks rb))) w :=
  run_build w 58 _ _ (node_built id term ticks rb)
end Go.Proofs.Qxb6614192a
