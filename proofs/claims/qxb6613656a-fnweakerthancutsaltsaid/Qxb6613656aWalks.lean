import Derived.Test.Qxb6613656aRows
import Derived.WalkKit
import Derived.WalkSpells
import Derived.StillTactics
import Derived.Laws.Pointers
import Derived.Laws.Rows
import Derived.Below
import Derived.RowKit3
namespace Go.Proofs.Qxb6613656a
open Go.RowKit

set_option maxHeartbeats 400000 in
theorem bytes5 (a n : Int) (p : Option Addr) (len cap : Nat) (cs ds : Array Value) (hlen : len ≤ maxLen) (w : World) :
    Calls Try.prog 5 #[.int .i64 a, .slice p len cap, .agg cs, .agg ds, .int .i64 n] w fun e w' => e = .returned (.bool (decide (len ≤ 1048576))) ∧ w' = (w.alloc (.cells cs 23)).alloc (.cells ds 23) := by
  unfold maxLen at hlen
  by_cases h : len ≤ 1048576
  · have h' : ¬ (1048576 : Int) < len := by omega
    go_enter Try.func5, Try.ntmps5
    go_wp2
    go_ret
    exact ⟨rfl, rfl⟩
  · have h' : (1048576 : Int) < len := by omega
    go_enter Try.func5, Try.ntmps5
    go_wp2
    go_ret
    exact ⟨by simp [h], rfl⟩

set_option maxHeartbeats 400000 in
theorem weaker (it n : Int) (b : Nat) (p : Option Addr) (len cap : Nat) (w : World) (h0 : w.cell? ⟨b, 0, none⟩ = some (.int .i64 it)) (h1 : w.cell? ⟨b, 1, none⟩ = some (.slice p len cap)) :
    Calls Try.prog 6 #[.pointer (some ⟨b, 0, none⟩), .int .i64 n] w fun e w' => e = .returned (.bool (decide (it < n) || decide ((len : Int) < 32))) ∧ w' = w := by
  by_cases h : it < n
  · go_enter Try.func6, Try.ntmps6
    go_wp2
    go_ret
    exact ⟨by simp [h], rfl⟩
  · go_enter Try.func6, Try.ntmps6
    go_wp2
    go_ret
    exact ⟨by simp; omega, rfl⟩

theorem info23 : (Try.prog.info? 23).map (·.size) = some 32 := by kernel_rfl
theorem built27 (parts : List (Nat × Value)) : Try.prog.built 27 parts = Instr.fill (fun i => #[(0, 1), (1, 1), (2, 32), (34, 32)][i]?) (#[.int .i64 0, .slice none 0 0] ++ Array.replicate 64 (.int .u8 0)) parts := by kernel_rfl

theorem fold_size (off : Nat) : ∀ (l : List (Value × Nat)) (a : Array Value), (l.foldl (fun cs x => cs.setIfInBounds (off + x.2) x.1) a).size = a.size
  | [], a => rfl
  | x :: l, a => by rw [List.foldl_cons, fold_size off l]; simp
theorem fold_get (off j : Nat) (hj : j < off) : ∀ (l : List (Value × Nat)) (a : Array Value), (l.foldl (fun cs x => cs.setIfInBounds (off + x.2) x.1) a)[j]? = a[j]?
  | [], a => rfl
  | x :: l, a => by
    rw [List.foldl_cons, fold_get off j hj l, Array.getElem?_setIfInBounds]
    rw [if_neg (by omega)]

theorem afold_size (off n : Nat) (xs : Array (Value × Nat)) (h : n = xs.size) (a : Array Value) : (Array.foldl (fun cs x => cs.setIfInBounds (off + x.2) x.1) a xs 0 n).size = a.size := by
  subst h; rw [← Array.foldl_toList]; exact fold_size off _ _
theorem afold_get (off j n : Nat) (hj : j < off) (xs : Array (Value × Nat)) (h : n = xs.size) (a : Array Value) : (Array.foldl (fun cs x => cs.setIfInBounds (off + x.2) x.1) a xs 0 n)[j]? = a[j]? := by
  subst h; rw [← Array.foldl_toList]; exact fold_get off j hj _ _

theorem secret_built (it : Int) (p : Option Addr) (len cap : Nat) (cs ds : Array Value) (hcs : cs.size = 32) (hds : ds.size = 32) :
    ∃ cells : Array Value, Try.prog.built 27 [(0, .int .i64 it), (1, .slice p len cap), (2, .agg cs), (3, .agg ds)] = some cells ∧ cells[0]? = some (.int .i64 it) ∧ cells[1]? = some (.slice p len cap) := by
  rw [built27]
  simp [Instr.fill, Value.cells, hcs, hds]
  refine ⟨_, ⟨?_, rfl⟩, ?_, ?_⟩
  · rw [afold_size 2 32 _ (by simp [hcs])]; simp
  · rw [afold_get 34 0 32 (by omega) _ (by simp [hds]), afold_get 2 0 32 (by omega) _ (by simp [hcs])]; simp
  · rw [afold_get 34 1 32 (by omega) _ (by simp [hds]), afold_get 2 1 32 (by omega) _ (by simp [hcs])]; simp

/-- The struct literal, its cells known by name alone. -/
theorem wpList_built {P : Program} {ops : Array Oper} {rest : List Oper} {o : Oper} {a : Act} {w : World} {Q : Exit → Act → World → Prop} (hg : o.guard = none) (t : TypeId) (parts : Array (Nat × Operand)) (ho : o.op = .build t parts) (cells : Array Value)
    (hc : P.built t (parts.map fun (i, x) => (i, a.eval x)).toList = some cells)
    (h : wpList P ops Q rest (a.put o.dst (.agg cells)) w) : wpList P ops Q (o :: rest) a w :=
  wpList_build hg t parts ho (by rw [hc]; rfl) (by rw [hc]; exact h)

theorem size_alloc (w : World) (o : Obj) : (w.alloc o).heap.size = w.heap.size + 1 := by show (w.heap.push o).size = _; simp
theorem heap4_0 (w : World) (a b c d : Obj) : ((((w.alloc a).alloc b).alloc c).alloc d).heap[w.heap.size]? = some a := by
  rw [Below.heap_alloc _ _ _ (by simp only [size_alloc]; omega), Below.heap_alloc _ _ _ (by simp only [size_alloc]; omega)]
  exact heap_alloc2_old w a b
theorem heap4_1 (w : World) (a b c d : Obj) : ((((w.alloc a).alloc b).alloc c).alloc d).heap[w.heap.size + 1]? = some b := by
  rw [Below.heap_alloc _ _ _ (by simp only [size_alloc]; omega), Below.heap_alloc _ _ _ (by simp only [size_alloc]; omega)]
  exact heap_alloc2_new w a b
theorem cell5 (w : World) (a b c d : Obj) (cells : Array Value) (t : TypeId) (j : Nat) : (((((w.alloc a).alloc b).alloc c).alloc d).alloc (.cells cells t)).cell? ⟨w.heap.size + 4, j, none⟩ = cells[j]? := by
  refine cell_of_row _ _ _ cells t (0, 0) ?_
  have := heap_alloc_new ((((w.alloc a).alloc b).alloc c).alloc d) (.cells cells t)
  simpa only [size_alloc] using this

set_option maxHeartbeats 400000 in
theorem walk3 (it n : Int) (p : Option Addr) (len cap : Nat) (cs ds : Array Value) (hcs : cs.size = 32) (hds : ds.size = 32) (hlen : len ≤ maxLen) (w : World) :
    Calls Try.prog 3 #[.int .i64 it, .slice p len cap, .agg cs, .agg ds, .int .i64 n] w fun e w' => e = .returned (.bool true) ∧ Below w.heap.size w w' := by
  have hl := hlen
  unfold maxLen at hl
  obtain ⟨cells, hb0, hb1, hb2⟩ := secret_built it p len cap cs ds hcs hds
  have HB : Hid (Try.prog.built 27 [(0, .int .i64 it), (1, .slice p len cap), (2, .agg cs), (3, .agg ds)] = some cells) := hb0
  have H1 : Hid (cells[0]? = some (.int .i64 it)) := hb1
  have H2 : Hid (cells[1]? = some (.slice p len cap)) := hb2
  have HC : Hid (some cs.size = some 32) := congrArg some hcs
  have HD : Hid (some ds.size = some 32) := congrArg some hds
  clear hb0 hb1 hb2 hcs hds
  by_cases h : len ≤ 1048576
  · have h' : ¬ (1048576 : Int) < len := by omega
    go_enter Try.func3, Try.ntmps3
    go_wp2_with (first
      | (refine wpList_load_row rfl 23 _ rfl w.heap.size rfl 23 cs (0, 0) _ ?_ Try.underlying23 rfl ?_ ?_; (first | exact heap_alloc2_old _ _ _ | exact heap4_0 _ _ _ _ _); (rw [HC.out]; exact info23))
      | (refine wpList_load_row rfl 23 _ rfl (w.heap.size + 1) rfl 23 ds (0, 0) _ ?_ Try.underlying23 rfl ?_ ?_; (first | exact heap_alloc2_new _ _ _ | exact heap4_1 _ _ _ _ _); (rw [HD.out]; exact info23))
      | (refine wpList_built rfl 27 _ rfl cells ?_ ?_; simp [Act.eval, Act.put, go_sem]; exact HB.out)
      | (go_at_call 5; refine (bytes5 it n p len cap cs ds hlen _).mono ?_; rintro e w' ⟨rfl, rfl⟩)
      | (go_at_call 6; refine (weaker it _ _ p len cap _ ?_ ?_).mono ?_; exact (cell5 _ _ _ _ _ _ _ _).trans H1.out; exact (cell5 _ _ _ _ _ _ _ _).trans H2.out; rintro e w' ⟨rfl, rfl⟩))
    all_goals
      go_ret
      exact ⟨by first | (simp [*]; done) | (simp; omega), (((((Below.refl _ _).alloc (Nat.le_refl _) _).alloc (by simp) _).alloc (by simp; omega) _).alloc (by simp; omega) _).alloc (by simp; omega) _⟩
  · have h' : (1048576 : Int) < len := by omega
    go_enter Try.func3, Try.ntmps3
    go_wp2_with (first
      | (refine wpList_load_row rfl 23 _ rfl w.heap.size rfl 23 cs (0, 0) _ ?_ Try.underlying23 rfl ?_ ?_; (first | exact heap_alloc2_old _ _ _ | exact heap4_0 _ _ _ _ _); (rw [HC.out]; exact info23))
      | (refine wpList_load_row rfl 23 _ rfl (w.heap.size + 1) rfl 23 ds (0, 0) _ ?_ Try.underlying23 rfl ?_ ?_; (first | exact heap_alloc2_new _ _ _ | exact heap4_1 _ _ _ _ _); (rw [HD.out]; exact info23))
      | (go_at_call 5; refine (bytes5 it n p len cap cs ds hlen _).mono ?_; rintro e w' ⟨rfl, rfl⟩))
    go_ret
    exact ⟨rfl, ((((Below.refl _ _).alloc (Nat.le_refl _) _).alloc (by simp) _).alloc (by simp; omega) _).alloc (by simp; omega) _⟩
end Go.Proofs.Qxb6613656a
