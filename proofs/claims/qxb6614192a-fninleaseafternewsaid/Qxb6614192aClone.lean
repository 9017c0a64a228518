import Derived.Test.Qxb6614192aRand
import Derived.Deep.OwnRows
import Derived.Lib.SliceRun
import Derived.BigQuiet
import Derived.Deep.QuietTactic
import Derived.Deep.LoopGhost
namespace Go.Proofs.Qxb6614192a
open Go.RowKit

theorem Try.info22' : (Try.prog.info? 22).map (fun i => (i.zero, i.size, i.bytes)) = some (some (.int .u64 0), 1, 8) := by kernel_rfl

/-- What is known of a row of numbers that came in. -/
def Src (w : World) (a : Option Addr) (n : Nat) (vs : List Int) : Prop := vs.length = n ∧ (0 < n → ∃ g o, a = some ⟨g, o, none⟩ ∧ ∀ i, i < n → w.cell? ⟨g, o + i, none⟩ = some (.int .u64 (vs.getD i 0)))

theorem owns_of_rowIs {w : World} {B g n : Nat} {vs : List Int} (hB : B ≤ g) (hl : vs.length = n) (hm : n ≤ maxLen) (h : w.rowIs g 22 n (fun i => .int .u64 (vs.getD i 0))) :
    w.ownsRow B 22 1 (.slice (some ⟨g, 0, none⟩) n n) n (vs.map (Value.int .u64)) := by
  obtain ⟨cs, h1, h2, h3⟩ := h
  refine ⟨by simp [hl], .inr ⟨g, n, cs, rfl, hB, h1, Nat.le_refl _, hm, by simp [h2], ?_⟩⟩
  apply List.ext_getElem?
  intro i
  rw [List.getElem?_take]
  by_cases hi : i < n
  · rw [if_pos (by omega)]
    have := h3 i hi
    simp only [Array.getElem?_toList, this]
    simp [List.getElem?_eq_getElem (show i < vs.length by omega)]
  · rw [if_neg (by omega)]
    exact (List.getElem?_eq_none (by simp; omega)).symm

set_option maxRecDepth 100000 in
set_option maxHeartbeats 1000000 in
theorem clone8 (a : Option Addr) (n cap : Nat) (vs : List Int) (w : World) (h : Src w a n vs) (ha : a = none → n = 0 ∧ cap = 0) (hn : n ≤ 1024) :
    Calls Try.prog 8 #[.slice a n cap] w fun e w' => ∃ p c, e = .returned (.slice p n c) ∧ w'.ownsRow w.heap.size 22 1 (.slice p n c) n (vs.map (Value.int .u64)) ∧ Keep [] w w' := by
  have q23 : ∀ (w : World) (a : Option Addr) (n c n' c' : Nat), (binOp .eql 23 (.slice a n c) (.slice none n' c')).run Try.prog w = .ok (.bool a.isNone) w := fun w a n c n' c' => Lib.run_eql_slice_nil w _ _ a n c n' c' Try.underlying23
  cases a with
  | none =>
    obtain ⟨rfl, rfl⟩ := ha rfl
    obtain rfl : vs = [] := List.eq_nil_of_length_eq_zero h.1
    clear h ha
    go_enter Try.func8, Try.ntmps8
    go_wp2_with fail
    go_ret
    exact ⟨none, 0, rfl, World.ownsRow_nil _ _ _ _, Keep.refl _ _⟩
  | some x =>
    clear ha
    have H : Hid (Src w (some x) n vs) := h
    clear h
    have hmk := run_make_row' (P := Try.prog) 23 22 (.int .u64 0) 8 Try.underlying23 Try.info22' rfl .i64 .i64 n (by omega) (by omega)
    go_enter Try.func8, Try.ntmps8
    go_wp2_with fail
    go_loopw [4] (fun i wr => ∃ k : Nat, k ≤ n ∧ i = .int .i64 k ∧ wr.rowIs w.heap.size 22 n (fun j => if j < k then .int .u64 (vs.getD j 0) else .int .u64 0) ∧ Keep [] w wr) (fun i _ => n - (intOf i).toNat)
    case atStart => exact ⟨0, Nat.zero_le _, rfl, (World.rowIs_made w _ n 22).congr (fun j _ => by simp), (Keep.refl _ _).alloc _⟩
    case round =>
      obtain ⟨k, hk, rfl, hr, hK⟩ := hrel
      by_cases hlt : k < n
      · obtain ⟨g, o, e, hc⟩ := H.out.2 (by omega)
        simp only [Option.some.injEq] at e
        subst e
        have c0 : wr.cell? ⟨g, o + k, none⟩ = some (.int .u64 (vs.getD k 0)) := by
          have h1 := hc k hlt
          exact (World.cell?_of_block (hK.block g (World.block_lt_of_cell? _ _ h1) (by simp))).trans h1
        have c1 := hr.cell hlt
        have hf := hr.frozen
        have hs : Hid ((wr.setCell ⟨w.heap.size, k, none⟩ (.int .u64 (vs.getD k 0))).rowIs w.heap.size 22 n (fun j => if j < k + 1 then .int .u64 (vs.getD j 0) else .int .u64 0) ∧ Keep [] w (wr.setCell ⟨w.heap.size, k, none⟩ (.int .u64 (vs.getD k 0)))) := by
          refine ⟨(hr.set k _).congr (fun j _ => ?_), hK.setNew _ (Nat.le_refl _) _⟩
          by_cases e : j = k
          · subst e; simp
          · rw [if_neg e]
            by_cases hjk : j < k
            · rw [if_pos hjk, if_pos (by omega)]
            · rw [if_neg hjk, if_neg (by omega)]
        have hlt' : (k : Int) < n := by omega
        clear hr hc hK
        generalize vs.getD k 0 = x at *
        go_wp2_with fail
        refine ⟨⟨k + 1, by omega, by go_num, hs.out.1, hs.out.2⟩, by simp [intOf]; omega⟩
      · obtain rfl : k = n := by omega
        have HF : Hid (wr.ownsRow w.heap.size 22 1 (.slice (some ⟨w.heap.size, 0, none⟩) k k) k (vs.map (Value.int .u64)) ∧ Keep [] w wr) := by
          refine ⟨owns_of_rowIs (Nat.le_refl _) H.out.1 (by simp [maxLen]; omega) (hr.congr (fun j hj => by rw [if_pos hj])), hK⟩
        clear hr hK H
        go_wp2_with fail
        go_ret
        exact ⟨_, _, rfl, HF.out.1, HF.out.2⟩
end Go.Proofs.Qxb6614192a
