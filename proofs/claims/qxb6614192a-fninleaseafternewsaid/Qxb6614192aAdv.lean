import Derived.Test.Qxb6614192aLead
import Derived.Laws.EntriesVeiled
namespace Go.Proofs.Qxb6614192a
open Go.RowKit

set_option maxRecDepth 100000 in
set_option maxHeartbeats 1000000 in
/-- Alone, a node agrees to what it has. -/
theorem agreed77 (b pb : Nat) (s : N) (pp : Option Addr) (pc : Nat) (x : Int) (w : World) (hs : Live w b pb s) (hp : s.peers = .slice pp 0 pc) :
    Calls Try.prog 77 #[.pointer (some ⟨b, 0, none⟩), .int .u64 x, .func (.func 78) #[] #[]] w fun e w' => e = .returned (.int .u64 x) ∧ Keep [] w w' := by
  have hb := hs.node.lt
  have c1 : w.cell? ⟨b, 1, none⟩ = some (.slice pp 0 pc) := by rw [← hp]; exact hs.node.cell 1
  have hb1 : b < w.heap.size + 1 := by omega
  have hb2 : b < w.heap.size + 1 + 1 := by omega
  have hb3 : b < w.heap.size + 1 + 1 + 1 := by omega
  have hb4 : b < w.heap.size + 1 + 1 + 1 + 1 := by omega
  have hb5 : b < w.heap.size + 1 + 1 + 1 + 1 + 1 := by omega
  clear hs hp
  go_enter Try.func77, Try.ntmps77
  go_wp2_with fail
  go_loopw [22] (fun i wr => i = .int .i64 0 ∧ wr = ((((((w.alloc (Obj.cells #[Value.pointer (some { block := b, off := 0 })] 32)).alloc (Obj.cells #[Value.int IntKind.u64 x] 22)).alloc (Obj.cells #[Value.func (Fn.func 78) #[] #[]] 127)).alloc (Obj.cells #[Value.func (Fn.func 85) #[] #[Value.pointer (some { block := w.heap.size, off := 0 }), Value.pointer (some { block := w.heap.size + 1, off := 0 }), Value.pointer (some { block := w.heap.size + 1 + 1, off := 0 })]] 98)).alloc (Obj.cells #[Value.int IntKind.u64 x] 22)).alloc (Obj.cells #[Value.slice (some { block := w.heap.size + 1 + 1 + 1 + 1, off := 0 }) 1 1] 23))) (fun _ _ => 0)
  case atStart => exact ⟨rfl, rfl⟩
  case round =>
    obtain ⟨rfl, hwr⟩ := hrel
    have hk : Keep [] w wr := by rw [hwr]; exact ((((((Keep.refl _ _).alloc _).alloc _).alloc _).alloc _).alloc _).alloc _
    have d1 : wr.cell? ⟨w.heap.size + 1 + 1 + 1 + 1 + 1, 0, none⟩ = some (.slice (some ⟨w.heap.size + 1 + 1 + 1 + 1, 0, none⟩) 1 1) := by rw [hwr]; exact cell_of_row _ _ 0 #[.slice (some ⟨w.heap.size + 1 + 1 + 1 + 1, 0, none⟩) 1 1] 23 (0, 0) (heap_alloc_at _ _ _ (by simp))
    have d2 : wr.cell? ⟨w.heap.size + 1 + 1 + 1 + 1, 0, none⟩ = some (.int .u64 x) := by rw [hwr]; exact cell_of_row _ _ 0 #[.int .u64 x] 22 (0, 0) ((Below.heap_alloc _ _ _ (by simp)).trans (heap_alloc_at _ _ _ (by simp)))
    have HK : Hid (Keep [] w wr) := hk
    clear hk hwr
    have HC : Hid (Calls Try.prog 20 #[.iface 23 (.slice (some ⟨w.heap.size + 1 + 1 + 1 + 1, 0, none⟩) 1 1), .func (.func 86) #[] #[.pointer (some ⟨w.heap.size + 1 + 1 + 1 + 1 + 1, 0, none⟩)]] wr fun e w' => e = .returned (.tuple #[]) ∧ Keep [] wr w') := sort_tiny _ 1 1 (by omega) _ _ _ wr
    have hl1 := block_lt_of_cell d1
    have hl2 := block_lt_of_cell d2
    go_wp2_with fail
    refine HC.out.mono ?_
    rintro e w1 ⟨rfl, hk1⟩
    have e1 : w1.cell? ⟨w.heap.size + 1 + 1 + 1 + 1 + 1, 0, none⟩ = some (.slice (some ⟨w.heap.size + 1 + 1 + 1 + 1, 0, none⟩) 1 1) := (World.cell?_of_block (hk1.block _ hl1 (by simp))).trans d1
    have e2 : w1.cell? ⟨w.heap.size + 1 + 1 + 1 + 1, 0, none⟩ = some (.int .u64 x) := (World.cell?_of_block (hk1.block _ hl2 (by simp))).trans d2
    have HK1 : Hid (Keep [] w w1) := HK.out.trans hk1
    clear d1 d2 HC HK hk1 hl1 hl2
    go_wp2_with fail
    go_loop [44] (fun i => i = .int .i64 0) (fun _ => 0)
    case atStart => rfl
    case round =>
      subst hrel
      go_wp2_with fail
      go_ret
      exact ⟨rfl, HK1.out⟩

theorem Live.drewN {w : World} {b pb : Nat} {s : N} (h : Live w b pb s) (q : Nat) : Live (w.drewN q) b pb s := h.keep (keep_drewN w q) (by simp) (by simp) (by simp)
set_option maxRecDepth 100000 in
set_option maxHeartbeats 1000000 in
/-- Alone, what is logged is committed. -/
theorem advance65 (b pb g : Nat) (s : N) (pp : Option Addr) (pc lc : Nat) (w : World) (hs : Live w b pb s) (hp : s.peers = .slice pp 0 pc) (hl : s.log = .slice (some ⟨g, 0, none⟩) 1 lc) (hg : w.cell? ⟨g, 0, none⟩ = some (.int .u64 s.term)) (hc : s.commit = 0) :
    Calls Try.prog 65 #[.pointer (some ⟨b, 0, none⟩)] w fun e w' => e = .returned (.tuple #[]) ∧ Live w' b pb { s with commit := 1 } ∧ Keep [b] w w' := by
  have HS : Hid (Live w b pb s) := hs
  have HG : Hid (w.cell? ⟨g, 0, none⟩ = some (.int .u64 s.term)) := hg
  clear hs hg
  go_enter Try.func65, Try.ntmps65
  go_wp2_with fail
  refine (last42 b pb s _ lc w HS.out hl).mono ?_
  rintro e w1 ⟨rfl, q, rfl⟩
  go_wp2_with fail
  refine (agreed77 b pb s pp pc 1 _ (HS.out.drewN q) hp).mono ?_
  rintro e w1 ⟨rfl, hk1⟩
  have HK1 : Hid (Keep [] w w1) := (keep_drewN w q).trans hk1
  clear hk1
  have HL1 : Hid (Live w1 b pb s) := HS.out.keep HK1.out (by simp) (by simp) (by simp)
  have c22 : w1.cell? ⟨b, 22, none⟩ = some (.int .u64 0) := by rw [← hc]; exact HL1.out.node.cell 22
  have c8 : w1.cell? ⟨b, 8, none⟩ = some (.int .u64 s.term) := HL1.out.node.cell 8
  have HT : Hid (∀ q', Calls Try.prog 43 #[.pointer (some ⟨b, 0, none⟩), .int .u64 1] (w1.drewN q') fun e w' => e = .returned (.int .u64 s.term) ∧ ∃ q, w' = (w1.drewN q').drewN q) := fun q' => term43 b pb g s.term s lc _ (HL1.out.drewN q') hl ((World.cell?_of_block (HK1.out.block g (block_lt_of_cell HG.out) (by simp))).trans HG.out)
  go_wp2_with fail
  go_quiet ((go_at_call 43; exact Calls.quiet_of (HT.out _)))
  have HF : Hid (Live ((w1.drewN nq).setCell ⟨b, 22, none⟩ (.int .u64 1)) b pb { s with commit := 1 } ∧ Keep [b] w ((w1.drewN nq).setCell ⟨b, 22, none⟩ (.int .u64 1))) :=
    ⟨(HL1.out.drewN nq).put 22 _ rfl rfl, ((HK1.out.mono (by simp)).trans ((keep_drewN w1 nq).mono (by simp))).setCell _ (by simp) _⟩
  have c1 : w1.cell? ⟨b, 1, none⟩ = some (.slice pp 0 pc) := by rw [← hp]; exact HL1.out.node.cell 1
  have hf : ∀ j, w1.frozen? ⟨b, j, none⟩ = false := HL1.out.node.frozen
  clear HS HG HT HK1 HL1 hp hl hc
  go_wp2_with fail
  go_loop [35] (fun i => i = .int .i64 0) (fun _ => 0)
  case atStart => rfl
  case round =>
    subst hrel
    go_wp2_with fail
    refine (reads68 b pb _ _ HF.out.1).mono ?_
    rintro e w2 ⟨rfl, q2, rfl⟩
    go_wp2_with fail
    go_end0
    exact ⟨rfl, HF.out.1.drewN q2, HF.out.2.trans ((keep_drewN _ q2).mono (by simp))⟩
end Go.Proofs.Qxb6614192a
