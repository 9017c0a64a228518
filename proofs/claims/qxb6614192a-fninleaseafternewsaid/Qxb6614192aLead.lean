import Derived.Test.Qxb6614192aGrant
namespace Go.Proofs.Qxb6614192a
open Go.RowKit

/-- A store of what lies there changes nothing. -/
theorem setCell_same {w : World} {b : Nat} {s : N} (h : NodeAt w b s) (j : Nat) (v : Value) (e : (nodeCells s)[j]? = some v) : w.setCell ⟨b, j, none⟩ v = w := by
  have h1 : (w.setCell ⟨b, j, none⟩ v).heap[b]? = some (.cells ((nodeCells s).setIfInBounds j v) 58 (0, 0)) := heap_setCell_same _ _ _ _ _ _ h
  have h2 : (nodeCells s).setIfInBounds j v = nodeCells s := by
    apply Array.ext_getElem?
    intro i
    by_cases hi : j = i
    · subst hi
      rw [e, Array.getElem?_setIfInBounds_self, if_pos (Array.getElem?_eq_some_iff.1 e).1]
    · rw [Array.getElem?_setIfInBounds_ne hi]
  rw [h2] at h1
  have h3 : (w.setCell ⟨b, j, none⟩ v).heap = w.heap := by
    apply Array.ext_getElem?
    intro i
    by_cases hi : i = b
    · subst hi; rw [h1]; exact h.symm
    · exact heap_setCell_other _ _ _ _ hi
  have h4 : (w.setCell ⟨b, j, none⟩ v) = { w with heap := (w.setCell ⟨b, j, none⟩ v).heap } := rfl
  rw [h4, h3]

set_option maxRecDepth 100000 in
set_option maxHeartbeats 1000000 in
/-- No reads wait. -/
theorem reads68 (b pb : Nat) (s : N) (w : World) (hs : Live w b pb s) : Calls Try.prog 68 #[.pointer (some ⟨b, 0, none⟩)] w fun e w' => e = .returned (.tuple #[]) ∧ ∃ q, w' = w.drewN q := by
  have c38 : w.cell? ⟨b, 38, none⟩ = some (.slice none 0 0) := hs.node.cell 38
  clear hs
  go_enter Try.func68, Try.ntmps68
  go_wp2_with fail
  go_quiet (fail)
  go_wp2_with fail
  refine bodyPost_ret (results_none rfl _ _ _) rfl ?_
  exact ⟨rfl, nq, rfl⟩

set_option maxRecDepth 100000 in
set_option maxHeartbeats 1000000 in
theorem heartbeat67 (b pb : Nat) (s : N) (pp : Option Addr) (pc : Nat) (w : World) (hs : Live w b pb s) (hp : s.peers = .slice pp 0 pc) :
    Calls Try.prog 67 #[.pointer (some ⟨b, 0, none⟩)] w fun e w' => e = .returned (.tuple #[]) ∧ (∃ x, Live w' b pb { s with beat := x, beatOut := true }) ∧ Keep [b] w w' := by
  have c36 : w.cell? ⟨b, 36, none⟩ = some (.int .u64 s.beat) := hs.node.cell 36
  have c37 : w.cell? ⟨b, 37, none⟩ = some (.bool s.beatOut) := hs.node.cell 37
  have c1 : w.cell? ⟨b, 1, none⟩ = some (.slice pp 0 pc) := by rw [← hp]; exact hs.node.cell 1
  have hf := hs.node.frozen
  have HS : Hid (Live w b pb s) := hs
  clear hs hp
  go_enter Try.func67, Try.ntmps67
  go_wp2_with fail
  go_loop [20] (fun i => i = .int .i64 0) (fun _ => 0)
  case atStart => rfl
  case round =>
    subst hrel
    go_wp2_with fail
    go_end0
    exact ⟨rfl, ⟨_, (HS.out.put (t := { s with beat := IntKind.u64.wrap (s.beat + 1) }) 36 (.int .u64 (IntKind.u64.wrap (s.beat + 1))) rfl rfl).put 37 (.bool true) rfl rfl⟩, ((Keep.refl _ _).setCell _ (by simp) _).setCell _ (by simp) _⟩

set_option maxRecDepth 100000 in
set_option maxHeartbeats 1000000 in
theorem held26 (b pb : Nat) (s : N) (w : World) (hs : Live w b pb s) : Calls Try.prog 26 #[.pointer (some ⟨b, 0, none⟩)] w fun e w' => e = .returned (.slice none 0 0) ∧ w' = w := by
  have c40 : w.cell? ⟨b, 40, none⟩ = some (.slice none 0 0) := hs.node.cell 40
  have hf := hs.node.frozen
  have HS : Hid (w.setCell ⟨b, 40, none⟩ (.slice none 0 0) = w) := setCell_same hs.node 40 _ rfl
  clear hs
  go_enter Try.func26, Try.ntmps26
  go_wp2_with fail
  go_loop [3, 11] (fun v i => v = .slice none 0 0 ∧ i = .int .i64 0) (fun _ _ => 0)
  case atStart => exact ⟨rfl, rfl⟩
  case round =>
    obtain ⟨rfl, rfl⟩ := hrel
    go_wp2_with fail
    go_ret
    exact ⟨rfl, HS.out⟩

set_option maxRecDepth 100000 in
set_option maxHeartbeats 1000000 in
theorem last42 (b pb : Nat) (s : N) (lp : Option Addr) (lc : Nat) (w : World) (hs : Live w b pb s) (hl : s.log = .slice lp 1 lc) : Calls Try.prog 42 #[.pointer (some ⟨b, 0, none⟩)] w fun e w' => e = .returned (.int .u64 1) ∧ ∃ q, w' = w.drewN q := by
  have c19 : w.cell? ⟨b, 19, none⟩ = some (.slice lp 1 lc) := by rw [← hl]; exact hs.node.cell 19
  have c20 : w.cell? ⟨b, 20, none⟩ = some (.int .u64 0) := hs.node.cell 20
  clear hs hl
  go_enter Try.func42, Try.ntmps42
  go_wp2_with fail
  go_quiet (fail)
  go_wp2_with fail
  go_ret
  exact ⟨rfl, nq, rfl⟩

set_option maxRecDepth 100000 in
set_option maxHeartbeats 1000000 in
theorem term43 (b pb g : Nat) (t : Int) (s : N) (lc : Nat) (w : World) (hs : Live w b pb s) (hl : s.log = .slice (some ⟨g, 0, none⟩) 1 lc) (hc : w.cell? ⟨g, 0, none⟩ = some (.int .u64 t)) : Calls Try.prog 43 #[.pointer (some ⟨b, 0, none⟩), .int .u64 1] w fun e w' => e = .returned (.int .u64 t) ∧ ∃ q, w' = w.drewN q := by
  have c19 : w.cell? ⟨b, 19, none⟩ = some (.slice (some ⟨g, 0, none⟩) 1 lc) := by rw [← hl]; exact hs.node.cell 19
  have c20 : w.cell? ⟨b, 20, none⟩ = some (.int .u64 0) := hs.node.cell 20
  clear hs hl
  go_enter Try.func43, Try.ntmps43
  go_wp2_with fail
  go_quiet (fail)
  go_wp2_with fail
  go_ret
  exact ⟨rfl, nq, rfl⟩
end Go.Proofs.Qxb6614192a
