import Derived.Test.Qxb6614192aNew
namespace Go.Proofs.Qxb6614192a
open Go.RowKit
/-- A node as New builds it. -/
def fresh (id term ticks : Int) (rb : Nat) : N :=
  { id := id, peers := .slice none 0 0, voters := .slice none 0 0, voter := false, rb := rb, ticks := ticks, term := term, vote := 0, dirty := false, role := 0, leader := 0, elapsed := 0, timeout := 0, granted := .map none, log := .slice none 0 0, commit := 0, progress := .map none, beat := 0, beatOut := false }

/-- What the build of a node reads of its type: the fields' places and the zero cells, under letters: so the walk does not lay out the 44 cells at each step. -/
structure Plan58 (f : Array Field) (Z : Array Value) (pl : Array (Nat × Nat)) : Prop where
  under : ∀ w, (underlying 58).run Try.prog w = .ok (.struct f) w
  zero : ∀ w, (zeroValue 58).run Try.prog w = .ok (.agg Z) w
  places : ∀ w, Sem.run Try.prog (Array.mapM (fun f => Prod.mk f.offset <$> sizeOf f.type) f) w = .ok pl w
  at_ : pl[0]? = some (0, 1) ∧ pl[5]? = some (5, 1) ∧ pl[7]? = some (7, 1) ∧ pl[8]? = some (8, 3) ∧ pl[17]? = some (19, 1) ∧ pl[18]? = some (20, 1) ∧ pl[19]? = some (21, 1) ∧ pl[20]? = some (22, 1) ∧ pl[21]? = some (23, 1) ∧ pl[22]? = some (24, 1) ∧ pl[23]? = some (25, 3) ∧ pl[36]? = some (42, 1)
  size : Z.size = 44
  some_ : ¬ Z = #[]
  laid : ∀ (id term ticks : Int) (rb : Nat), (((((((((((((((Z.setIfInBounds 0 (.int .u64 id)).setIfInBounds 5 (.pointer (some ⟨rb, 0, none⟩))).setIfInBounds 7 (.int .i64 ticks)).setIfInBounds 8 (.int .u64 term)).setIfInBounds 9 (.int .u64 0)).setIfInBounds 10 (.int .u64 0)).setIfInBounds 19 (.slice none 0 0)).setIfInBounds 20 (.int .u64 0)).setIfInBounds 21 (.int .u64 0)).setIfInBounds 22 (.int .u64 0)).setIfInBounds 23 (.int .u64 0)).setIfInBounds 24 (.int .u64 0)).setIfInBounds 25 (.int .u64 0)).setIfInBounds 26 (.int .u64 0)).setIfInBounds 27 .nilIface).setIfInBounds 42 (.int .u64 0) = nodeCells (fresh id term ticks rb)

def zero58 : Array Value := #[.int .u64 0, .slice none 0 0, .slice none 0 0, .bool false, .slice none 0 0, .pointer none, .int .i64 0, .int .i64 0, .int .u64 0, .int .u64 0, .int .u64 0, .bool false, .int .u8 0, .int .u64 0, .int .i64 0, .int .i64 0, .map none, .bool false, .int .u64 0, .slice none 0 0, .int .u64 0, .int .u64 0, .int .u64 0, .int .u64 0, .int .u64 0, .int .u64 0, .int .u64 0, .nilIface, .bool false, .int .u64 0, .int .u64 0, .int .u64 0, .nilIface, .slice none 0 0, .int .u64 0, .map none, .int .u64 0, .bool false, .slice none 0 0, .slice none 0 0, .slice none 0 0, .slice none 0 0, .int .u64 0, .slice none 0 0]
def places58 : Array (Nat × Nat) := #[(0, 1), (1, 1), (2, 1), (3, 1), (4, 1), (5, 1), (6, 1), (7, 1), (8, 3), (11, 1), (12, 1), (13, 1), (14, 1), (15, 1), (16, 1), (17, 1), (18, 1), (19, 1), (20, 1), (21, 1), (22, 1), (23, 1), (24, 1), (25, 3), (28, 1), (29, 1), (30, 3), (33, 1), (34, 1), (35, 1), (36, 1), (37, 1), (38, 1), (39, 1), (40, 1), (41, 1), (42, 1), (43, 1)]
theorem laid58 (id term ticks : Int) (rb : Nat) : (((((((((((((((zero58.setIfInBounds 0 (.int .u64 id)).setIfInBounds 5 (.pointer (some ⟨rb, 0, none⟩))).setIfInBounds 7 (.int .i64 ticks)).setIfInBounds 8 (.int .u64 term)).setIfInBounds 9 (.int .u64 0)).setIfInBounds 10 (.int .u64 0)).setIfInBounds 19 (.slice none 0 0)).setIfInBounds 20 (.int .u64 0)).setIfInBounds 21 (.int .u64 0)).setIfInBounds 22 (.int .u64 0)).setIfInBounds 23 (.int .u64 0)).setIfInBounds 24 (.int .u64 0)).setIfInBounds 25 (.int .u64 0)).setIfInBounds 26 (.int .u64 0)).setIfInBounds 27 .nilIface).setIfInBounds 42 (.int .u64 0) = nodeCells (fresh id term ticks rb) := by
  simp [zero58, nodeCells, fresh]
theorem zero58_run (w : World) : (zeroValue 58).run Try.prog w = .ok (.agg zero58) w := by kernel_rfl
theorem places58_run : ∃ f, (∀ w, (underlying 58).run Try.prog w = .ok (.struct f) w) ∧ ∀ w, Sem.run Try.prog (Array.mapM (fun f => Prod.mk f.offset <$> sizeOf f.type) f) w = .ok places58 w :=
  ⟨_, fun w => run_underlying Try.underlying58 w, fun w => by kernel_rfl⟩
theorem plan58 : ∃ f Z pl, Plan58 f Z pl := by
  obtain ⟨f, h1, h2⟩ := places58_run
  exact ⟨f, zero58, places58, h1, zero58_run, h2, ⟨rfl, rfl, rfl, rfl, rfl, rfl, rfl, rfl, rfl, rfl, rfl, rfl⟩, rfl, by simp [zero58], laid58⟩
end Go.Proofs.Qxb6614192a
