import Derived.Test.Qxb6613656aWalks
import Derived.StillTail
namespace Go.Proofs.Qxb6613656a
open Go.RowKit

set_option maxHeartbeats 400000 in
theorem bytes7 (a n c : Int) (p : Option Addr) (len cap : Nat) (cs ds : Array Value) (hlen : len ≤ maxLen) (w : World) :
    Calls Try.prog 7 #[.int .i64 a, .slice p len cap, .agg cs, .agg ds, .int .i64 n, .int .i64 c] w fun e w' => e = .returned (.bool (decide (len ≤ 1048576))) ∧ w' = (w.alloc (.cells cs 23)).alloc (.cells ds 23) := by
  unfold maxLen at hlen
  by_cases h : len ≤ 1048576
  · have h' : ¬ (1048576 : Int) < len := by omega
    go_enter Try.func7, Try.ntmps7
    go_wp2
    go_ret
    exact ⟨rfl, rfl⟩
  · have h' : (1048576 : Int) < len := by omega
    go_enter Try.func7, Try.ntmps7
    go_wp2
    go_ret
    exact ⟨by simp [h], rfl⟩

theorem heap5_0 (w : World) (a b c d e : Obj) : (((((w.alloc a).alloc b).alloc c).alloc d).alloc e).drew.heap[w.heap.size]? = some a := by
  show (((((w.alloc a).alloc b).alloc c).alloc d).alloc e).heap[w.heap.size]? = some a
  rw [Below.heap_alloc _ _ _ (by simp only [size_alloc]; omega)]
  exact heap4_0 w a b c d
theorem heap5_1 (w : World) (a b c d e : Obj) : (((((w.alloc a).alloc b).alloc c).alloc d).alloc e).drew.heap[w.heap.size + 1]? = some b := by
  show (((((w.alloc a).alloc b).alloc c).alloc d).alloc e).heap[w.heap.size + 1]? = some b
  rw [Below.heap_alloc _ _ _ (by simp only [size_alloc]; omega)]
  exact heap4_1 w a b c d
theorem cell6_4 (w : World) (a b c d : Obj) (cells : Array Value) (t : TypeId) (e : Obj) (j : Nat) : ((((((w.alloc a).alloc b).alloc c).alloc d).alloc (.cells cells t)).alloc e).drew.cell? ⟨w.heap.size + 4, j, none⟩ = cells[j]? := by
  refine Eq.trans ?_ (cell5 w a b c d cells t j)
  refine World.cell?_of_block (w := ((((w.alloc a).alloc b).alloc c).alloc d).alloc (.cells cells t)) (Below.heap_alloc _ _ _ ?_)
  simp only [size_alloc]; omega
theorem cell6_5 (w : World) (a b c d e : Obj) (cells : Array Value) (t : TypeId) (j : Nat) : ((((((w.alloc a).alloc b).alloc c).alloc d).alloc e).alloc (.cells cells t)).drew.cell? ⟨w.heap.size + 5, j, none⟩ = cells[j]? := by
  refine cell_of_row _ _ _ cells t (0, 0) ?_
  have := heap_alloc_new (((((w.alloc a).alloc b).alloc c).alloc d).alloc e) (.cells cells t)
  simp only [size_alloc] at this
  exact this

theorem wpStill_load_row {P : Program} {ops : Array Oper} {rest : List Oper} {o : Oper} {a : Act} {w : World} {Q : Act → Prop} (hgd : o.guard = none) (ty : TypeId) (x : Operand) (ho : o.op = .load ty x)
    (g : Nat) (hx : a.eval x = .pointer (some ⟨g, 0, none⟩)) (t : TypeId) (cs : Array Value) (fr : Nat × Nat) (d : TypeDesc) (hg : w.heap[g]? = some (.cells cs t fr))
    (hu : P.underlying ty = some d) (hd : (match d with | .struct _ | .array _ _ => true | _ => false) = true) (hi : (P.info? ty).map (·.size) = some cs.size)
    (h : wpStill P ops w Q rest (a.put o.dst (.agg cs))) : wpStill P ops w Q (o :: rest) a := by
  have hw : Region.wanted o (yielded ops a.tmps) = true := by simp [Region.wanted, hgd]
  unfold wpStill
  rw [if_pos hw]
  unfold Oper.still execOp
  simp only [ho, hx, Instr.loadAt, Instr.sureAddr, Sem.run_bind, Sem.run_pure, Result.andThen_ok, run_loadVar_row w g t ty cs fr d hg hu hd hi]
  exact ⟨rfl, h⟩

theorem sliced_zero (a : Option Addr) (h m s : Nat) : sliced a 0 h m s = .slice a h m := by
  cases a with
  | none => simp [sliced]
  | some a => simp [sliced, Addr.add_zero']
theorem still_tail {P : Program} {id : Nat} {Q : Exit → Act → World → Prop} {a : Act} {w : World} {l : List Oper} (n : Nat) (hm : P.follows .mixedOrders = true) (hB : Region.lexTailB .any l.toArray n = true)
    (h : wpStill P l.toArray w.drew (fun a' => wpList P l.toArray Q (l.drop n) a' w.drew) (l.take n) a) : (Code.region id l.toArray true).wp P Q a w := wp_region_still_tail n hm hB h

set_option maxHeartbeats 400000 in
theorem walk4_long (it n c : Int) (p : Option Addr) (len cap : Nat) (cs ds : Array Value) (hcs : cs.size = 32) (hds : ds.size = 32) (hlen : len ≤ maxLen) (w : World) (h : ¬ (len ≤ 1048576 ∧ 0 ≤ c ∧ c ≤ len)) :
    Calls Try.prog 4 #[.int .i64 it, .slice p len cap, .agg cs, .agg ds, .int .i64 n, .int .i64 c] w fun e w' => e = .returned (.bool true) ∧ Below w.heap.size w w' := by
  have hl := hlen
  unfold maxLen at hl
  have HC : Hid (some cs.size = some 32) := congrArg some hcs
  have HD : Hid (some ds.size = some 32) := congrArg some hds
  clear hcs hds
  by_cases h1 : len ≤ 1048576
  · have h' : ¬ (1048576 : Int) < len := by omega
    by_cases h2 : c < 0
    · clear h
      go_enter Try.func4, Try.ntmps4
      go_wp2_with (first
        | (refine wpList_load_row rfl 23 _ rfl w.heap.size rfl 23 cs (0, 0) _ ?_ Try.underlying23 rfl ?_ ?_; (first | exact heap_alloc2_old _ _ _ | exact heap4_0 _ _ _ _ _); (rw [HC.out]; exact info23))
        | (refine wpList_load_row rfl 23 _ rfl (w.heap.size + 1) rfl 23 ds (0, 0) _ ?_ Try.underlying23 rfl ?_ ?_; (first | exact heap_alloc2_new _ _ _ | exact heap4_1 _ _ _ _ _); (rw [HD.out]; exact info23))
        | (go_at_call 7; refine (bytes7 it n c p len cap cs ds hlen _).mono ?_; rintro e w' ⟨rfl, rfl⟩))
      go_ret
      exact ⟨rfl, ((((Below.refl _ _).alloc (Nat.le_refl _) _).alloc (by simp) _).alloc (by simp; omega) _).alloc (by simp; omega) _⟩
    · have h3 : (len : Int) < c := by omega
      clear h
      go_enter Try.func4, Try.ntmps4
      go_wp2_with (first
        | (refine wpList_load_row rfl 23 _ rfl w.heap.size rfl 23 cs (0, 0) _ ?_ Try.underlying23 rfl ?_ ?_; (first | exact heap_alloc2_old _ _ _ | exact heap4_0 _ _ _ _ _); (rw [HC.out]; exact info23))
        | (refine wpList_load_row rfl 23 _ rfl (w.heap.size + 1) rfl 23 ds (0, 0) _ ?_ Try.underlying23 rfl ?_ ?_; (first | exact heap_alloc2_new _ _ _ | exact heap4_1 _ _ _ _ _); (rw [HD.out]; exact info23))
        | (go_at_call 7; refine (bytes7 it n c p len cap cs ds hlen _).mono ?_; rintro e w' ⟨rfl, rfl⟩))
      go_ret
      exact ⟨rfl, ((((Below.refl _ _).alloc (Nat.le_refl _) _).alloc (by simp) _).alloc (by simp; omega) _).alloc (by simp; omega) _⟩
  · have h' : (1048576 : Int) < len := by omega
    clear h
    go_enter Try.func4, Try.ntmps4
    go_wp2_with (first
      | (refine wpList_load_row rfl 23 _ rfl w.heap.size rfl 23 cs (0, 0) _ ?_ Try.underlying23 rfl ?_ ?_; (first | exact heap_alloc2_old _ _ _ | exact heap4_0 _ _ _ _ _); (rw [HC.out]; exact info23))
      | (refine wpList_load_row rfl 23 _ rfl (w.heap.size + 1) rfl 23 ds (0, 0) _ ?_ Try.underlying23 rfl ?_ ?_; (first | exact heap_alloc2_new _ _ _ | exact heap4_1 _ _ _ _ _); (rw [HD.out]; exact info23))
      | (go_at_call 7; refine (bytes7 it n c p len cap cs ds hlen _).mono ?_; rintro e w' ⟨rfl, rfl⟩))
    go_ret
    exact ⟨rfl, ((((Below.refl _ _).alloc (Nat.le_refl _) _).alloc (by simp) _).alloc (by simp; omega) _).alloc (by simp; omega) _⟩

set_option maxHeartbeats 400000 in
theorem walk4_short (it n : Int) (c : Nat) (p : Option Addr) (len cap : Nat) (cs ds : Array Value) (hcs : cs.size = 32) (hds : ds.size = 32) (hlen : len ≤ maxLen) (hcap : len ≤ cap) (hcap' : cap ≤ maxLen) (w : World) (h1 : len ≤ 1048576) (h3 : c ≤ len) :
    Calls Try.prog 4 #[.int .i64 it, .slice p len cap, .agg cs, .agg ds, .int .i64 n, .int .i64 c] w fun e w' => e = .returned (.bool true) ∧ Below w.heap.size w w' := by
  have hl := hcap'
  unfold maxLen at hl
  obtain ⟨cells, hb0, hb1, hb2⟩ := secret_built it p len cap cs ds hcs hds
  obtain ⟨cells', hb0', hb1', hb2'⟩ := secret_built it p c cap cs ds hcs hds
  have HB : Hid (Try.prog.built 27 [(0, .int .i64 it), (1, .slice p len cap), (2, .agg cs), (3, .agg ds)] = some cells) := hb0
  have H1 : Hid (cells[0]? = some (.int .i64 it)) := hb1
  have H2 : Hid (cells[1]? = some (.slice p len cap)) := hb2
  have HB' : Hid (Try.prog.built 27 [(0, .int .i64 it), (1, .slice p c cap), (2, .agg cs), (3, .agg ds)] = some cells') := hb0'
  have H1' : Hid (cells'[0]? = some (.int .i64 it)) := hb1'
  have H2' : Hid (cells'[1]? = some (.slice p c cap)) := hb2'
  have HC : Hid (some cs.size = some 32) := congrArg some hcs
  have HD : Hid (some ds.size = some 32) := congrArg some hds
  clear hb0 hb1 hb2 hb0' hb1' hb2' hcs hds
  have h' : ¬ (1048576 : Int) < len := by omega
  have h3' : (c : Int) ≤ len := by omega
  have hcc : (c : Int) ≤ cap := by omega
  go_enter Try.func4, Try.ntmps4
  go_wp2_with (first
      | (refine wpList_load_row rfl 23 _ rfl w.heap.size rfl 23 cs (0, 0) _ ?_ Try.underlying23 rfl ?_ ?_; (first | exact heap_alloc2_old _ _ _ | exact heap4_0 _ _ _ _ _); (rw [HC.out]; exact info23))
      | (refine wpList_load_row rfl 23 _ rfl (w.heap.size + 1) rfl 23 ds (0, 0) _ ?_ Try.underlying23 rfl ?_ ?_; (first | exact heap_alloc2_new _ _ _ | exact heap4_1 _ _ _ _ _); (rw [HD.out]; exact info23))
      | (refine wpList_built rfl 27 _ rfl cells ?_ ?_; simp [Act.eval, Act.put, go_sem]; exact HB.out)
      | (go_at_call 7; refine (bytes7 it n c p len cap cs ds hlen _).mono ?_; rintro e w' ⟨rfl, rfl⟩))
  refine still_tail 6 (by kernel_rfl) (by kernel_rfl) ?_
  simp only [List.take_succ_cons, List.take_zero, List.drop_succ_cons, List.drop_zero]
  repeat (first | (refine wpStill_load_row rfl 23 _ rfl w.heap.size rfl 23 cs (0, 0) _ ?_ Try.underlying23 rfl ?_ ?_; (exact heap5_0 _ _ _ _ _ _); (rw [HC.out]; exact info23)) | (refine wpStill_load_row rfl 23 _ rfl (w.heap.size + 1) rfl 23 ds (0, 0) _ ?_ Try.underlying23 rfl ?_ ?_; (exact heap5_1 _ _ _ _ _ _); (rw [HD.out]; exact info23)) | still_step)
  refine wpStill_nil ?_
  go_wp2_with (refine wpList_built rfl 27 _ rfl cells' ?_ ?_; simp [Act.eval, Act.put, go_sem]; exact HB'.out)
  refine (weaker it n (w.heap.size + 4) p len cap _ ((cell6_4 _ _ _ _ _ _ _ _ _).trans H1.out) ((cell6_4 _ _ _ _ _ _ _ _ _).trans H2.out)).mono ?_
  rintro e w' ⟨rfl, rfl⟩
  go_wp2_with fail
  refine (weaker it n (w.heap.size + 5) p c cap _ ((cell6_5 _ _ _ _ _ _ _ _ _).trans H1'.out) ((cell6_5 _ _ _ _ _ _ _ _ _).trans H2'.out)).mono ?_
  rintro e w' ⟨rfl, rfl⟩
  have bel : ∀ a b c d e f : Obj, Below w.heap.size w ((((((w.alloc a).alloc b).alloc c).alloc d).alloc e).alloc f).drew := fun a b c d e f =>
    ((((((((Below.refl _ _).alloc (Nat.le_refl _) _).alloc (by simp) _).alloc (by simp; omega) _).alloc (by simp; omega) _).alloc (by simp; omega) _).alloc (by simp; omega) _)).drew
  have BEL := bel
  have tri : it < n ∨ (¬ it < n ∧ (c : Int) < 32) ∨ (¬ it < n ∧ ¬ (c : Int) < 32 ∧ ¬ (len : Int) < 32) := by omega
  clear bel
  rcases tri with hA | ⟨hA, hB⟩ | ⟨hA, hB, hC⟩
  all_goals go_wp2_with fail
  all_goals
    go_ret
    exact ⟨by first | (simp; omega) | (simp; done) | (simp; rw [Bool.eq_iff_iff]; simp; omega), BEL _ _ _ _ _ _⟩
end Go.Proofs.Qxb6613656a
