import Derived.Test.Qxb6614123aPromise
namespace Go.Proofs.Qxb6614123a
open Go.RowKit

theorem St.lt {B b : Nat} {w : World} {pr bs : R} {ps : List R} (h : St B b w pr bs ps) : b < w.heap.size := by
  obtain ⟨v, hA, _⟩ := h
  exact hA.lt
theorem St.drew {B b : Nat} {w : World} {pr bs : R} {ps : List R} (h : St B b w pr bs ps) : St B b w.drew pr bs ps := h
/-- Whatever keeps all old blocks keeps the acceptor. -/
theorem St.later {B b : Nat} {w w' : World} {pr bs : R} {ps : List R} (h : St B b w pr bs ps) (hb : Below w.heap.size w w') : St B b w' pr bs ps := by
  obtain ⟨v, hA, hO, hne⟩ := h
  refine ⟨v, hA.of (hb.block b hA.lt), hO.kept (row := none) ⟨hb.os, hb.tape, hb.output, hb.size, fun k hk _ => hb.block k hk⟩ ?_, hne⟩
  cases v.ownBlock <;> simp
theorem St.alloc {B b : Nat} {w : World} {pr bs : R} {ps : List R} (h : St B b w pr bs ps) (o : Obj) : St B b (w.alloc o) pr bs ps := h.later ((Below.refl _ _).alloc (Nat.le_refl _) o)

/-- The acceptor has seen the records l. -/
def Seen (B b : Nat) (w : World) (l : List R) : Prop := St B b w (top l) (baseOf l) (kept l)
theorem Seen.next {B b : Nat} {w : World} {l : List R} {r : R} (h : St B b w r (baseNext (top l) (baseOf l) (kept l)) (keptNext (kept l) r)) : Seen B b w (l ++ [r]) := by
  unfold Seen
  rw [top_snoc, base_snoc, kept_snoc]
  exact h

set_option maxHeartbeats 400000 in
theorem restore15 (B b : Nat) (r : R) (l : List R) (w : World) (hB : B ≤ b) (h : Seen B b w l) :
    Calls Try.prog 15 #[.pointer (some ⟨b, 0, none⟩), .agg #[.int .u64 r.e, .int .u64 r.n, .int .i64 r.l, .int .u64 r.s]] w fun e w' =>
      e = .returned (.tuple #[]) ∧ Seen B b w' (recStep l r) ∧ Below B w w' := by
  have hlt := St.lt h
  obtain ⟨q0, q1, q2, q3⟩ : _ ∧ _ ∧ _ ∧ _ := by
    obtain ⟨v, hA, _⟩ := h
    exact hA.pr
  have H : Hid (Seen B b w l) := h
  clear h
  by_cases hl : less (top l) r = true
  · have HL : Hid (recStep l r = l ++ [r]) := by unfold recStep; rw [if_pos hl]; rfl
    have hl' : Hid (less ⟨(top l).e, (top l).n, (top l).l, (top l).s⟩ ⟨r.e, r.n, r.l, r.s⟩ = true) := hl
    clear hl
    go_enter Try.func15, Try.ntmps15
    go_wp2_with fail
    refine still_tail 5 (by kernel_rfl) (by kernel_rfl) ?_
    simp only [List.take_succ_cons, List.take_zero, List.drop_succ_cons, List.drop_zero]
    repeat still_step
    refine wpStill_nil ?_
    go_wp2_with fail
    refine (less17 _ _ _ _ _ _ _ _ _).mono ?_
    rintro e w1 ⟨rfl, o1, o2, rfl⟩
    rw [hl'.out]
    go_wp2_with fail
    refine (promise18 B b (top l) (baseOf l) r (kept l) _ hB (((H.out.alloc _).drew.alloc _).alloc _) (kept_le l)).mono ?_
    rintro e w1 ⟨rfl, hs, hb⟩
    go_wp2_with fail
    go_end0
    refine ⟨rfl, by rw [HL.out]; exact Seen.next hs, Below.trans ?_ hb⟩
    exact (((((Below.refl _ _).alloc (by omega) _).drew).alloc (by simp; omega) _).alloc (by simp; omega) _)
  · have HL : Hid (recStep l r = l) := by unfold recStep; rw [if_neg hl]; rfl
    have hl' : Hid (less ⟨(top l).e, (top l).n, (top l).l, (top l).s⟩ ⟨r.e, r.n, r.l, r.s⟩ = false) := by show less (top l) r = false; simpa using hl
    clear hl
    go_enter Try.func15, Try.ntmps15
    go_wp2_with fail
    refine still_tail 5 (by kernel_rfl) (by kernel_rfl) ?_
    simp only [List.take_succ_cons, List.take_zero, List.drop_succ_cons, List.drop_zero]
    repeat still_step
    refine wpStill_nil ?_
    go_wp2_with fail
    refine (less17 _ _ _ _ _ _ _ _ _).mono ?_
    rintro e w1 ⟨rfl, o1, o2, rfl⟩
    rw [hl'.out]
    go_wp2_with fail
    go_end0
    refine ⟨rfl, by rw [HL.out]; exact ((H.out.alloc _).drew.alloc _).alloc _, ?_⟩
    exact (((((Below.refl _ _).alloc (by omega) _).drew).alloc (by simp; omega) _).alloc (by simp; omega) _)

set_option maxHeartbeats 400000 in
theorem restore7 (B b : Nat) (r : R) (l : List R) (w : World) (hB : B ≤ b) (h : Seen B b w l) :
    Calls Try.prog 7 #[.pointer (some ⟨b, 0, none⟩), .agg #[.int .u64 r.e, .int .u64 r.n, .int .i64 r.l, .int .u64 r.s]] w fun e w' =>
      e = .returned (.tuple #[]) ∧ Seen B b w' (recStep l r) ∧ Below B w w' := by
  have hlt := St.lt h
  have H : Hid (Seen B b w l) := h
  clear h
  go_enter Try.func7, Try.ntmps7
  go_wp2_with fail
  refine (restore15 B b r l _ hB (H.out.alloc _)).mono ?_
  rintro e w1 ⟨rfl, hs, hb⟩
  go_wp2_with fail
  go_end0
  exact ⟨rfl, hs, Below.trans ((Below.refl _ _).alloc (by omega) _) hb⟩

theorem seen_new (w : World) : Seen w.heap.size w.heap.size (w.alloc (.cells (accCells R.zero (.slice none 0 0) R.zero) 43)) [] :=
  ⟨.slice none 0 0, heap_alloc_new w _, World.ownsRow_nil _ _ _ _, by simp [Value.ownBlock]⟩
end Go.Proofs.Qxb6614123a
