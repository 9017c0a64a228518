import Derived.Test.Qxb6614123aRows
import Derived.Test.Qxb6614123aPlain
import Derived.WalkKit
import Derived.WalkSpells
import Derived.StillTactics
import Derived.Laws.Pointers
import Derived.Laws.Rows
import Derived.Below
import Derived.RowKit3
namespace Go.Proofs.Qxb6614123a
open Go.RowKit

set_option maxHeartbeats 400000 in
theorem before16 (a b c d a' b' c' d' : Int) (w : World) :
    Calls Try.prog 16 #[.agg #[.int .u64 a, .int .u64 b, .int .i64 c, .int .u64 d], .agg #[.int .u64 a', .int .u64 b', .int .i64 c', .int .u64 d']] w fun e w' =>
      e = .returned (.bool (less ⟨a, b, c, d⟩ ⟨a', b', c', d'⟩)) ∧ ∃ o1 o2, w' = (w.alloc o1).alloc o2 := by
  go_enter Try.func16, Try.ntmps16
  go_wp2
  all_goals
    go_ret
    exact ⟨by simp [less, *], _, _, rfl⟩

set_option maxHeartbeats 400000 in
theorem less17 (a b c d a' b' c' d' : Int) (w : World) :
    Calls Try.prog 17 #[.agg #[.int .u64 a, .int .u64 b, .int .i64 c, .int .u64 d], .agg #[.int .u64 a', .int .u64 b', .int .i64 c', .int .u64 d']] w fun e w' =>
      e = .returned (.bool (less ⟨a, b, c, d⟩ ⟨a', b', c', d'⟩)) ∧ ∃ o1 o2, w' = (w.alloc o1).alloc o2 := by
  go_enter Try.func17, Try.ntmps17
  go_wp2
  all_goals
    go_ret
    exact ⟨by simp [less, *], _, _, rfl⟩

set_option maxHeartbeats 400000 in
theorem round8 (a b c d : Int) (w : World) :
    Calls Try.prog 8 #[.agg #[.int .u64 a, .int .u64 b, .int .i64 c, .int .u64 d]] w fun e w' =>
      e = .returned (.agg #[.int .u64 a, .int .u64 b, .int .i64 c, .int .u64 d]) ∧ ∃ o1 o2, w' = (w.alloc o1).alloc o2 := by
  go_enter Try.func8, Try.ntmps8
  go_wp2
  simp [bodyPost, results, Try.results8, go_sem]
  exact ⟨_, _, rfl⟩

theorem bytes5 (p : Option Addr) (len cap : Nat) (hlen : len ≤ maxLen) (w : World) :
    Calls Try.prog 5 #[.slice p len cap] w fun e w' => e = .returned (.bool (decide (len ≤ 1048576))) ∧ w' = w := by
  unfold maxLen at hlen
  by_cases h : len ≤ 1048576
  · have h' : ¬ (1048576 : Int) < len := by omega
    go_enter Try.func5, Try.ntmps5
    go_wp2
    go_ret
    exact ⟨rfl, rfl⟩
  · have h' : (1048576 : Int) < len := by omega
    go_enter Try.func5, Try.ntmps5
    go_wp2
    go_ret
    exact ⟨by simp [h], rfl⟩
theorem bytes14 (p : Option Addr) (len cap : Nat) (hlen : len ≤ maxLen) (w : World) :
    Calls Try.prog 14 #[.slice p len cap] w fun e w' => e = .returned (.bool (decide (len ≤ 1048576))) ∧ w' = w := by
  unfold maxLen at hlen
  by_cases h : len ≤ 1048576
  · have h' : ¬ (1048576 : Int) < len := by omega
    go_enter Try.func14, Try.ntmps14
    go_wp2
    go_ret
    exact ⟨rfl, rfl⟩
  · have h' : (1048576 : Int) < len := by omega
    go_enter Try.func14, Try.ntmps14
    go_wp2
    go_ret
    exact ⟨by simp [h], rfl⟩

/-- The acceptor's block. -/
def accCells (pr : R) (v : Value) (bs : R) : Array Value :=
  #[.int .u64 pr.e, .int .u64 pr.n, .int .i64 pr.l, .int .u64 pr.s, .map none, .int .u64 0, .int .u64 0, .int .i64 0, .int .u64 0, .int .u64 0, .map none, v, .int .u64 bs.e, .int .u64 bs.n, .int .i64 bs.l, .int .u64 bs.s,
    .int .u64 0, .int .u64 0, .int .i64 0, .int .u64 0, .int .u64 0, .int .u64 0, .int .u64 0, .int .i64 0, .int .u64 0, .int .u64 0, .map none]

theorem built43 : Try.prog.built 43 [] = some (accCells R.zero (.slice none 0 0) R.zero) := by kernel_rfl

theorem new6 (w : World) :
    Calls Try.prog 6 #[] w fun e w' => e = .returned (.pointer (some ⟨w.heap.size, 0, none⟩)) ∧ w' = w.alloc (.cells (accCells R.zero (.slice none 0 0) R.zero) 43) := by
  go_enter Try.func6, Try.ntmps6
  go_wp2
  go_ret
  exact ⟨rfl, rfl⟩

/-- The acceptor lies in block b. -/
def AccAt (w : World) (b : Nat) (pr : R) (v : Value) (bs : R) : Prop := w.heap[b]? = some (.cells (accCells pr v bs) 43 (0, 0))

theorem AccAt.cells {w : World} {b : Nat} {pr : R} {v : Value} {bs : R} (h : AccAt w b pr v bs) (j : Nat) : w.cell? ⟨b, j, none⟩ = (accCells pr v bs)[j]? := cell_of_row w b j _ 43 (0, 0) h
theorem AccAt.frozen {w : World} {b : Nat} {pr : R} {v : Value} {bs : R} (h : AccAt w b pr v bs) (j : Nat) : w.frozen? ⟨b, j, none⟩ = false := frozen_of_row w b j _ 43 h
theorem AccAt.pr {w : World} {b : Nat} {pr : R} {v : Value} {bs : R} (h : AccAt w b pr v bs) : w.cell? ⟨b, 0, none⟩ = some (.int .u64 pr.e) ∧ w.cell? ⟨b, 1, none⟩ = some (.int .u64 pr.n) ∧ w.cell? ⟨b, 2, none⟩ = some (.int .i64 pr.l) ∧ w.cell? ⟨b, 3, none⟩ = some (.int .u64 pr.s) :=
  ⟨h.cells 0, h.cells 1, h.cells 2, h.cells 3⟩
theorem AccAt.bs {w : World} {b : Nat} {pr : R} {v : Value} {bs : R} (h : AccAt w b pr v bs) : w.cell? ⟨b, 12, none⟩ = some (.int .u64 bs.e) ∧ w.cell? ⟨b, 13, none⟩ = some (.int .u64 bs.n) ∧ w.cell? ⟨b, 14, none⟩ = some (.int .i64 bs.l) ∧ w.cell? ⟨b, 15, none⟩ = some (.int .u64 bs.s) :=
  ⟨h.cells 12, h.cells 13, h.cells 14, h.cells 15⟩
theorem AccAt.row {w : World} {b : Nat} {pr : R} {v : Value} {bs : R} (h : AccAt w b pr v bs) : w.cell? ⟨b, 11, none⟩ = some v := h.cells 11
theorem AccAt.lt {w : World} {b : Nat} {pr : R} {v : Value} {bs : R} (h : AccAt w b pr v bs) : b < w.heap.size := (Array.getElem?_eq_some_iff.1 h).1
theorem AccAt.of {w w' : World} {b : Nat} {pr : R} {v : Value} {bs : R} (h : AccAt w b pr v bs) (e : w'.heap[b]? = w.heap[b]?) : AccAt w' b pr v bs := e.trans h

set_option maxHeartbeats 400000 in
theorem promised11 (b : Nat) (pr bs : R) (v : Value) (w : World) (h : AccAt w b pr v bs) :
    Calls Try.prog 11 #[.pointer (some ⟨b, 0, none⟩)] w fun e w' => e = .returned (.agg #[.int .u64 pr.e, .int .u64 pr.n, .int .i64 pr.l, .int .u64 pr.s]) ∧ ∃ o, w' = w.alloc o := by
  obtain ⟨h0, h1, h2, h3⟩ := h.pr
  have hlt := h.lt
  go_enter Try.func11, Try.ntmps11
  go_wp2
  simp [bodyPost, results, Try.results11, go_sem]
  exact ⟨_, rfl⟩

set_option maxHeartbeats 400000 in
theorem base13 (b : Nat) (pr bs : R) (v : Value) (w : World) (h : AccAt w b pr v bs) :
    Calls Try.prog 13 #[.pointer (some ⟨b, 0, none⟩)] w fun e w' => e = .returned (.agg #[.int .u64 bs.e, .int .u64 bs.n, .int .i64 bs.l, .int .u64 bs.s]) ∧ ∃ o, w' = w.alloc o := by
  obtain ⟨h0, h1, h2, h3⟩ := h.bs
  have hlt := h.lt
  go_enter Try.func13, Try.ntmps13
  go_wp2
  simp [bodyPost, results, Try.results13, go_sem]
  exact ⟨_, rfl⟩

set_option maxHeartbeats 400000 in
theorem prepared12 (b : Nat) (pr bs : R) (p : Option Addr) (len cap : Nat) (w : World) (h : AccAt w b pr (.slice p len cap) bs) :
    Calls Try.prog 12 #[.pointer (some ⟨b, 0, none⟩)] w fun e w' => e = .returned (.slice p len cap) ∧ w' = w := by
  have h0 := h.row
  go_enter Try.func12, Try.ntmps12
  go_wp2
  go_ret
  exact ⟨rfl, rfl⟩
end Go.Proofs.Qxb6614123a
