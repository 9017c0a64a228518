import Derived.Test.Qxb6614192aHead
import Derived.Test.Qxb6614192aMem
import Derived.Deep.DeepCutAuto
namespace Go.Proofs.Qxb6614192a
open Go.RowKit

def Led2 (b pb : Nat) (w w' : World) : Prop := ∃ s', Live w' b pb s' ∧ s'.role = 3 ∧ Keep [b, pb] w w'

/-- What a lone voter is, ahead of its standing. -/
structure Lone (w : World) (B b pb : Nat) (s : N) (p : Option Addr) (c : Nat) (pp : Option Addr) (pc : Nat) : Prop where
  live : Live w b pb s
  voters : s.voters = .slice p 1 c
  row : Row w B (.slice p 1 c) [s.id]
  peers : s.peers = .slice pp 0 pc
  log : s.log = .slice none 0 0
  commit : s.commit = 0
  t1 : 2 ≤ s.ticks
  t2 : s.ticks ≤ 65536
  hb : b < B
  hp : pb < B

/-- The node's clock is set anew and its map of grants made: it has granted itself. -/
theorem lone_grant {w w1 : World} {B b pb : Nat} {s s1 : N} {p pp : Option Addr} {c pc : Nat} (h : Lone w B b pb s p c pp pc) (hL : Live w1 b pb s1) (hk : Keep [b, pb] w w1) (h1 : s1.voters = s.voters) (h2 : s1.id = s.id) :
    Calls Try.prog 27 #[.pointer (some ⟨b, 0, none⟩), .int .u64 s1.id] ((w1.setCell ⟨b, 16, none⟩ (.map (some w1.heap.size))).alloc (.map #[] 0)) fun e w' => e = .returned (.bool true) ∧ Live w' b pb { s1 with granted := .map (some w1.heap.size) } ∧ Row w' B (.slice p 1 c) [s1.id] ∧ Keep [b, pb] w w' := by
  have hkA : Keep [b, pb] w ((w1.setCell ⟨b, 16, none⟩ (.map (some w1.heap.size))).alloc (.map #[] 0)) := (hk.setCell _ (by simp) _).alloc _
  have hLA : Live ((w1.setCell ⟨b, 16, none⟩ (.map (some w1.heap.size))).alloc (.map #[] 0)) b pb { s1 with granted := .map (some w1.heap.size) } := (hL.put (t := { s1 with granted := .map (some w1.heap.size) }) 16 (.map (some w1.heap.size)) rfl rfl).alloc _
  have hrow : Row ((w1.setCell ⟨b, 16, none⟩ (.map (some w1.heap.size))).alloc (.map #[] 0)) B (.slice p 1 c) [s1.id] := by
    rw [h2]
    exact h.row.keep hkA (fun g e' => by have := (h.row.lt g e').1; have := h.hb; have := h.hp; simp; omega)
  have hm : ((w1.setCell ⟨b, 16, none⟩ (.map (some w1.heap.size))).alloc (.map #[] 0)).heap[w1.heap.size]? = some (.map #[] 0) := heap_alloc_at _ _ _ (by simp)
  refine (grant27 b pb w1.heap.size B { s1 with granted := .map (some w1.heap.size) } p c _ hLA rfl hm (h1.trans h.voters) hrow).mono ?_
  rintro e' w' ⟨rfl, hl, hr, hk'⟩
  exact ⟨rfl, hl, hr, hkA.past hk' (fun q hq => by have := hk.size; simp at hq; omega)⟩

set_option maxRecDepth 100000 in
set_option maxHeartbeats 2000000 in
theorem campaign28 (B b pb : Nat) (s : N) (p : Option Addr) (c : Nat) (pp : Option Addr) (pc : Nat) (w : World) (h : Lone w B b pb s p c pp pc) :
    Calls Try.prog 28 #[.pointer (some ⟨b, 0, none⟩)] w fun e w' => e = .returned (.tuple #[]) ∧ Led2 b pb w w' := by
  have c0 : w.cell? ⟨b, 0, none⟩ = some (.int .u64 s.id) := h.live.node.cell 0
  have c8 : w.cell? ⟨b, 8, none⟩ = some (.int .u64 s.term) := h.live.node.cell 8
  have c9 : w.cell? ⟨b, 9, none⟩ = some (.int .u64 s.vote) := h.live.node.cell 9
  have c11 : w.cell? ⟨b, 11, none⟩ = some (.bool s.dirty) := h.live.node.cell 11
  have c12 : w.cell? ⟨b, 12, none⟩ = some (.int .u8 s.role) := h.live.node.cell 12
  have c13 : w.cell? ⟨b, 13, none⟩ = some (.int .u64 s.leader) := h.live.node.cell 13
  have hf := h.live.node.frozen
  have H : Hid (Lone w B b pb s p c pp pc) := h
  clear h
  go_enter Try.func28, Try.ntmps28
  go_upto_region 0 with fail
  go_region
  go_wp2_with fail
  have hL1 := (((((H.out.live.put (t := { s with term := IntKind.u64.wrap (s.term + 1) }) 8 (.int .u64 (IntKind.u64.wrap (s.term + 1))) rfl rfl).put (t := { s with term := IntKind.u64.wrap (s.term + 1), vote := s.id }) 9 (.int .u64 s.id) rfl rfl).put (t := { s with term := IntKind.u64.wrap (s.term + 1), vote := s.id, dirty := true }) 11 (.bool true) rfl rfl).put (t := { s with term := IntKind.u64.wrap (s.term + 1), vote := s.id, dirty := true, role := 2 }) 12 (.int .u8 2) rfl rfl).put (t := { s with term := IntKind.u64.wrap (s.term + 1), vote := s.id, dirty := true, role := 2, leader := 0 }) 13 (.int .u64 0) rfl rfl).drew
  have hK1 : Keep [b, pb] w _ := ((((((Keep.refl [b, pb] w).setCell ⟨b, 8, none⟩ (by simp) (.int .u64 (IntKind.u64.wrap (s.term + 1)))).setCell ⟨b, 9, none⟩ (by simp) (.int .u64 s.id)).setCell ⟨b, 11, none⟩ (by simp) (.bool true)).setCell ⟨b, 12, none⟩ (by simp) (.int .u8 2)).setCell ⟨b, 13, none⟩ (by simp) (.int .u64 0)).drew
  refine (reset23 b pb _ _ hL1 H.out.t1 H.out.t2).mono ?_
  rintro e w1 ⟨rfl, ⟨tt, hL2⟩, hK2⟩
  have HL2 : Hid (Live w1 b pb { s with term := IntKind.u64.wrap (s.term + 1), vote := s.id, dirty := true, role := 2, leader := 0, elapsed := 0, timeout := tt } ∧ Keep [b, pb] w w1) := ⟨hL2, hK1.trans hK2⟩
  clear hL1 hK1 hK2 c0 c8 c9 c11 c12 c13 hf
  have c0 : w1.cell? ⟨b, 0, none⟩ = some (.int .u64 s.id) := hL2.node.cell 0
  have c16 : w1.cell? ⟨b, 16, none⟩ = some s.granted := hL2.node.cell 16
  have hb1 := hL2.node.lt
  have hf := hL2.node.frozen
  clear hL2
  have HG : Hid (Calls Try.prog 27 #[.pointer (some ⟨b, 0, none⟩), .int .u64 s.id] ((w1.setCell ⟨b, 16, none⟩ (.map (some w1.heap.size))).alloc (.map #[] 0)) fun e w' => e = .returned (.bool true) ∧ Live w' b pb { s with term := IntKind.u64.wrap (s.term + 1), vote := s.id, dirty := true, role := 2, leader := 0, elapsed := 0, timeout := tt, granted := .map (some w1.heap.size) } ∧ Row w' B (.slice p 1 c) [s.id] ∧ Keep [b, pb] w w') := lone_grant H.out HL2.out.1 HL2.out.2 rfl rfl
  have hmm := @run_makeMap Try.prog
  go_wp2_with fail
  refine HG.out.mono ?_
  rintro e w2 ⟨rfl, hl, hr, hk⟩
  have HC : Hid (Calls Try.prog 41 #[.pointer (some ⟨b, 0, none⟩)] w2 fun e w' => e = .returned (.tuple #[]) ∧ Led b pb w2 w') := lead41 b pb _ pp pc w2 hl H.out.peers H.out.log H.out.commit
  have HK : Hid (Keep [b, pb] w w2) := hk
  clear hl hr hk HG HL2 c0 c16 hf hmm
  go_wp2_with fail
  refine HC.out.mono ?_
  rintro e w3 ⟨rfl, s', h1, h2, h3⟩
  have HF : Hid (Led2 b pb w w3) := ⟨s', h1, h2, HK.out.trans (h3.mono (fun k hk => .inl (by simp at hk; simp [hk])))⟩
  clear h1 h2 h3 HK HC
  go_wp2_with fail
  refine bodyPost_ret (results_none rfl _ _ _) rfl ?_
  exact ⟨rfl, HF.out⟩

set_option maxRecDepth 100000 in
set_option maxHeartbeats 2000000 in
theorem stand18 (B b pb : Nat) (s : N) (p : Option Addr) (c : Nat) (pp : Option Addr) (pc : Nat) (w : World) (h : Lone w B b pb s p c pp pc) :
    Calls Try.prog 18 #[.pointer (some ⟨b, 0, none⟩)] w fun e w' => e = .returned (.tuple #[]) ∧ Led2 b pb w w' := by
  have c0 : w.cell? ⟨b, 0, none⟩ = some (.int .u64 s.id) := h.live.node.cell 0
  have c12 : w.cell? ⟨b, 12, none⟩ = some (.int .u8 s.role) := h.live.node.cell 12
  have c13 : w.cell? ⟨b, 13, none⟩ = some (.int .u64 s.leader) := h.live.node.cell 13
  have hf := h.live.node.frozen
  have H : Hid (Lone w B b pb s p c pp pc) := h
  clear h
  go_enter Try.func18, Try.ntmps18
  go_wp2_with fail
  have hL1 := (H.out.live.put (t := { s with role := 1 }) 12 (.int .u8 1) rfl rfl).put (t := { s with role := 1, leader := 0 }) 13 (.int .u64 0) rfl rfl
  have hK1 : Keep [b, pb] w _ := ((Keep.refl [b, pb] w).setCell ⟨b, 12, none⟩ (by simp) (.int .u8 1)).setCell ⟨b, 13, none⟩ (by simp) (.int .u64 0)
  refine (reset23 b pb _ _ hL1 H.out.t1 H.out.t2).mono ?_
  rintro e w1 ⟨rfl, ⟨tt, hL2⟩, hK2⟩
  have HL2 : Hid (Live w1 b pb { s with role := 1, leader := 0, elapsed := 0, timeout := tt } ∧ Keep [b, pb] w w1) := ⟨hL2, hK1.trans hK2⟩
  clear hL1 hK1 hK2 c0 c12 c13 hf
  have c0 : w1.cell? ⟨b, 0, none⟩ = some (.int .u64 s.id) := hL2.node.cell 0
  have c16 : w1.cell? ⟨b, 16, none⟩ = some s.granted := hL2.node.cell 16
  have hb1 := hL2.node.lt
  have hf := hL2.node.frozen
  clear hL2
  have HG : Hid (Calls Try.prog 27 #[.pointer (some ⟨b, 0, none⟩), .int .u64 s.id] ((w1.setCell ⟨b, 16, none⟩ (.map (some w1.heap.size))).alloc (.map #[] 0)) fun e w' => e = .returned (.bool true) ∧ Live w' b pb { s with role := 1, leader := 0, elapsed := 0, timeout := tt, granted := .map (some w1.heap.size) } ∧ Row w' B (.slice p 1 c) [s.id] ∧ Keep [b, pb] w w') := lone_grant H.out HL2.out.1 HL2.out.2 rfl rfl
  have hmm := @run_makeMap Try.prog
  go_wp2_with fail
  refine HG.out.mono ?_
  rintro e w2 ⟨rfl, hl, hr, hk⟩
  have HC : Hid (Calls Try.prog 28 #[.pointer (some ⟨b, 0, none⟩)] w2 fun e w' => e = .returned (.tuple #[]) ∧ Led2 b pb w2 w') := campaign28 B b pb _ p c pp pc w2 ⟨hl, H.out.voters, hr, H.out.peers, H.out.log, H.out.commit, H.out.t1, H.out.t2, H.out.hb, H.out.hp⟩
  have HK : Hid (Keep [b, pb] w w2) := hk
  clear hl hr hk HG HL2 c0 c16 hf hmm
  go_wp2_with fail
  refine HC.out.mono ?_
  rintro e w3 ⟨rfl, s', h1, h2, h3⟩
  have HF : Hid (Led2 b pb w w3) := ⟨s', h1, h2, HK.out.trans h3⟩
  clear h1 h2 h3 HK HC
  go_wp2_with fail
  refine bodyPost_ret (results_none rfl _ _ _) rfl ?_
  exact ⟨rfl, HF.out⟩
end Go.Proofs.Qxb6614192a
