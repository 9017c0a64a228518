import Derived.Test.Qxb6614192aIntN
import Derived.Deep.RegionHeldLaw
import Derived.Deep.QuietTactic
import Derived.BigQuiet
namespace Go.Proofs.Qxb6614192a
open Go.RowKit

/-- What of a node turns while it starts. -/
structure N where
  id : Int
  peers : Value
  voters : Value
  voter : Bool
  rb : Nat
  ticks : Int
  term : Int
  vote : Int
  dirty : Bool
  role : Int
  leader : Int
  elapsed : Int
  timeout : Int
  granted : Value
  log : Value
  commit : Int
  progress : Value
  beat : Int
  beatOut : Bool

def nodeCells (s : N) : Array Value :=
  #[.int .u64 s.id, s.peers, s.voters, .bool s.voter, .slice none 0 0, .pointer (some ⟨s.rb, 0, none⟩), .int .i64 0, .int .i64 s.ticks, .int .u64 s.term, .int .u64 s.vote, .int .u64 0, .bool s.dirty,
    .int .u8 s.role, .int .u64 s.leader, .int .i64 s.elapsed, .int .i64 s.timeout, s.granted, .bool false, .int .u64 0, s.log, .int .u64 0, .int .u64 0, .int .u64 s.commit, .int .u64 0, .int .u64 0,
    .int .u64 0, .int .u64 0, .nilIface, .bool false, .int .u64 0, .int .u64 0, .int .u64 0, .nilIface, .slice none 0 0, .int .u64 0, s.progress, .int .u64 s.beat, .bool s.beatOut,
    .slice none 0 0, .slice none 0 0, .slice none 0 0, .slice none 0 0, .int .u64 0, .slice none 0 0]

/-- The node lies in block b. -/
def NodeAt (w : World) (b : Nat) (s : N) : Prop := w.heap[b]? = some (.cells (nodeCells s) 58 (0, 0))
theorem NodeAt.cell {w : World} {b : Nat} {s : N} (h : NodeAt w b s) (j : Nat) : w.cell? ⟨b, j, none⟩ = (nodeCells s)[j]? := cell_of_row w b j _ 58 (0, 0) h
theorem NodeAt.frozen {w : World} {b : Nat} {s : N} (h : NodeAt w b s) (j : Nat) : w.frozen? ⟨b, j, none⟩ = false := frozen_of_row w b j _ 58 h
theorem NodeAt.lt {w : World} {b : Nat} {s : N} (h : NodeAt w b s) : b < w.heap.size := (Array.getElem?_eq_some_iff.1 h).1
theorem NodeAt.put {w : World} {b : Nat} {s t : N} (h : NodeAt w b s) (j : Nat) (v : Value) (e : (nodeCells s).setIfInBounds j v = nodeCells t) : NodeAt (w.setCell ⟨b, j, none⟩ v) b t := by
  unfold NodeAt
  rw [← e]
  exact heap_setCell_same _ _ _ _ _ _ h
theorem NodeAt.drew {w : World} {b : Nat} {s : N} (h : NodeAt w b s) : NodeAt w.drew b s := h
theorem NodeAt.keep {w w' : World} {b : Nat} {s : N} {S : List Nat} (h : NodeAt w b s) (hk : Keep S w w') (hn : b ∉ S) : NodeAt w' b s := (hk.block b h.lt hn).trans h
theorem NodeAt.ne_pcg {w : World} {b pb : Nat} {s : N} {H L : Int} (h : NodeAt w b s) (hp : PcgAt w pb H L) : b ≠ pb := by
  intro e
  subst e
  have := h.symm.trans hp
  simp at this
theorem NodeAt.ne_rand {w : World} {b rb pb : Nat} {s : N} (h : NodeAt w b s) (hp : RandAt w rb pb) : b ≠ rb := by
  intro e
  subst e
  have := h.symm.trans hp
  simp at this
theorem Gen.keep {w w' : World} {pb : Nat} {S : List Nat} (h : Gen w pb) (hk : Keep S w w') (hn : pb ∉ S) : Gen w' pb := by
  obtain ⟨H, L, h1, h2, hp⟩ := h
  exact ⟨H, L, h1, h2, (hk.block pb hp.lt hn).trans hp⟩
theorem RandAt.kept {w w' : World} {rb pb : Nat} {S : List Nat} (h : RandAt w rb pb) (hk : Keep S w w') (hn : rb ∉ S) : RandAt w' rb pb := (hk.block rb h.lt hn).trans h

/-- A node in block b, over its source of numbers and the generator beneath it. -/
structure Live (w : World) (b pb : Nat) (s : N) : Prop where
  node : NodeAt w b s
  rand : RandAt w s.rb pb
  gen : Gen w pb

theorem Live.ne_pb {w : World} {b pb : Nat} {s : N} (h : Live w b pb s) : b ≠ pb := by
  obtain ⟨H, L, _, _, hp⟩ := h.gen
  exact h.node.ne_pcg hp
theorem Live.rb_ne {w : World} {b pb : Nat} {s : N} (h : Live w b pb s) : s.rb ≠ pb := by
  obtain ⟨H, L, _, _, hp⟩ := h.gen
  exact h.rand.ne hp
theorem Live.b_ne {w : World} {b pb : Nat} {s : N} (h : Live w b pb s) : b ≠ s.rb := h.node.ne_rand h.rand

/-- One cell of the node is written. -/
theorem Live.put {w : World} {b pb : Nat} {s t : N} (h : Live w b pb s) (j : Nat) (v : Value) (e : (nodeCells s).setIfInBounds j v = nodeCells t) (hr : t.rb = s.rb) : Live (w.setCell ⟨b, j, none⟩ v) b pb t := by
  have hk : Keep [b] w (w.setCell ⟨b, j, none⟩ v) := (Keep.refl _ _).setCell _ (by simp) _
  refine ⟨h.node.put j v e, by rw [hr]; exact h.rand.kept hk (by have := h.b_ne; simp; omega), h.gen.keep hk (by have := h.ne_pb; simp; omega)⟩
theorem Live.drew {w : World} {b pb : Nat} {s : N} (h : Live w b pb s) : Live w.drew b pb s := ⟨h.node, h.rand, h.gen⟩
/-- Whatever leaves the three blocks alone leaves the node as it was. -/
theorem Live.keep {w w' : World} {b pb : Nat} {s : N} {S : List Nat} (h : Live w b pb s) (hk : Keep S w w') (h1 : b ∉ S) (h2 : s.rb ∉ S) (h3 : pb ∉ S) : Live w' b pb s :=
  ⟨h.node.keep hk h1, h.rand.kept hk h2, h.gen.keep hk h3⟩
theorem Live.alloc {w : World} {b pb : Nat} {s : N} (h : Live w b pb s) (o : Obj) : Live (w.alloc o) b pb s :=
  h.keep (S := []) ((Keep.refl _ _).alloc o) (by simp) (by simp) (by simp)

theorem intN35' (rb pb : Nat) (x : Int) (w : World) (h0 : 0 < x) (h1 : x ≤ 65536) (hr : RandAt w rb pb) (h : Gen w pb) :
    Calls Try.prog 35 #[.pointer (some ⟨rb, 0, none⟩), .int .i64 x] w fun e w' => AnInt e ∧ Gen w' pb ∧ Keep [pb] w w' := by
  obtain ⟨n, rfl⟩ := Int.eq_ofNat_of_zero_le (show 0 ≤ x by omega)
  exact intN35 rb pb n w (by omega) (by omega) hr h

set_option maxHeartbeats 1000000 in
theorem reset23 (b pb : Nat) (s : N) (w : World) (hs : Live w b pb s) (h1 : 2 ≤ s.ticks) (h2 : s.ticks ≤ 65536) :
    Calls Try.prog 23 #[.pointer (some ⟨b, 0, none⟩)] w fun e w' => e = .returned (.tuple #[]) ∧ (∃ t, Live w' b pb { s with elapsed := 0, timeout := t }) ∧ Keep [b, pb] w w' := by
  have c14 : w.cell? ⟨b, 14, none⟩ = some (.int .i64 s.elapsed) := hs.node.cell 14
  have hf := hs.node.frozen
  have HS : Hid (Live w b pb s) := hs
  clear hs
  go_enter Try.func23, Try.ntmps23
  go_wp2_with fail
  have hs1 : Live (w.setCell ⟨b, 14, none⟩ (.int .i64 0)) b pb { s with elapsed := 0 } := HS.out.put 14 _ rfl rfl
  have hk1 : Keep [b, pb] w (w.setCell ⟨b, 14, none⟩ (.int .i64 0)) := (Keep.refl _ _).setCell _ (by simp) _
  clear c14 hf HS
  generalize w.setCell { block := b, off := 14 } _ = W1 at hs1 hk1 ⊢
  have c5 : W1.cell? ⟨b, 5, none⟩ = some (.pointer (some ⟨s.rb, 0, none⟩)) := hs1.node.cell 5
  have c7 : W1.cell? ⟨b, 7, none⟩ = some (.int .i64 s.ticks) := hs1.node.cell 7
  have c15 : W1.cell? ⟨b, 15, none⟩ = some (.int .i64 s.timeout) := hs1.node.cell 15
  have hf := hs1.node.frozen
  have HS : Hid (Live W1 b pb { s with elapsed := 0 }) := hs1
  have HK : Hid (Keep [b, pb] w W1) := hk1
  have HC : Hid (Calls Try.prog 35 #[.pointer (some ⟨s.rb, 0, none⟩), .int .i64 (s.ticks - 1)] W1.drew fun e w' => AnInt e ∧ Gen w' pb ∧ Keep [pb] W1.drew w') := intN35' s.rb pb (s.ticks - 1) W1.drew (by omega) (by omega) hs1.rand hs1.gen
  have hwr : IntKind.i64.wrap (s.ticks - 1) = s.ticks - 1 := by rw [IntKind.wrap_i64]; omega
  have hnb := hs1.ne_pb
  have hblt := hs1.node.lt
  clear hs1 hk1
  go_region_held (fun w' => w'.cell? ⟨b, 5, none⟩ = some (.pointer (some ⟨s.rb, 0, none⟩)) ∧ w'.cell? ⟨b, 7, none⟩ = some (.int .i64 s.ticks)) (first | exact ⟨c5, c7⟩ | exact ⟨k5, k7⟩ | (refine ⟨?_, ?_⟩ <;> simp [go_sem, k5, k7]))
    ((go_at_call 35; refine HC.out.mono ?_; rintro e w' ⟨⟨r, rfl⟩, hg, hk⟩; have k5 : w'.cell? ⟨b, 5, none⟩ = some (.pointer (some ⟨s.rb, 0, none⟩)) := (World.cell?_of_block (w := W1.drew) (hk.block b hblt (by simpa using hnb))).trans c5; have k7 : w'.cell? ⟨b, 7, none⟩ = some (.int .i64 s.ticks) := (World.cell?_of_block (w := W1.drew) (hk.block b hblt (by simpa using hnb))).trans c7; have k15 : w'.cell? ⟨b, 15, none⟩ = some (.int .i64 s.timeout) := (World.cell?_of_block (w := W1.drew) (hk.block b hblt (by simpa using hnb))).trans c15; have kf : w'.frozen? ⟨b, 15, none⟩ = false := (World.frozen?_of_block (w := W1.drew) (hk.block b hblt (by simpa using hnb))).trans (hf 15); have HG : Hid (Gen w' pb ∧ Keep [pb] W1.drew w') := ⟨hg, hk⟩; clear hg hk))
  have hL : Live w' b pb { s with elapsed := 0 } := ⟨HS.out.node.drew.keep HG.out.2 (by simpa using hnb), HS.out.rand.kept (w := W1.drew) HG.out.2 (by have := HS.out.rb_ne; simpa using this), HG.out.1⟩
  have hL2 := hL.put (t := { s with elapsed := 0, timeout := (IntKind.i64.wrap (IntKind.i64.wrap (s.ticks + 2) + r)) }) 15 (.int .i64 (IntKind.i64.wrap (IntKind.i64.wrap (s.ticks + 2) + r))) rfl rfl
  have hK2 : Keep [b, pb] w (w'.setCell ⟨b, 15, none⟩ (.int .i64 (IntKind.i64.wrap (IntKind.i64.wrap (s.ticks + 2) + r)))) := (HK.out.drew.trans (HG.out.2.mono (fun k hk => .inl (by simp at hk; simp [hk])))).setCell _ (by simp) _
  go_wp2_with fail
  go_end0
  exact ⟨rfl, ⟨_, hL2⟩, hK2⟩

theorem keep_drewN (w : World) (n : Nat) : Keep [] w (w.drewN n) := ⟨rfl, rfl, rfl, Nat.le_refl _, fun _ _ _ => rfl⟩
set_option maxRecDepth 100000 in
set_option maxHeartbeats 1000000 in
/-- A follower that knows of no leader is in no lease. -/
theorem lease19_no (b pb : Nat) (s : N) (w : World) (hs : Live w b pb s) (hr : s.role = 0) (hl : s.leader = 0) :
    Calls Try.prog 19 #[.pointer (some ⟨b, 0, none⟩)] w fun e w' => e = .returned (.bool false) ∧ Keep [] w w' := by
  have c12 : w.cell? ⟨b, 12, none⟩ = some (.int .u8 0) := by rw [← hr]; exact hs.node.cell 12
  have c13 : w.cell? ⟨b, 13, none⟩ = some (.int .u64 0) := by rw [← hl]; exact hs.node.cell 13
  clear hs hr hl
  go_enter Try.func19, Try.ntmps19
  go_wp2_with fail
  go_quiet (fail)
  go_wp2_with fail
  go_ret
  exact ⟨rfl, keep_drewN _ _⟩
set_option maxRecDepth 100000 in
set_option maxHeartbeats 1000000 in
/-- A leader is in its lease. -/
theorem lease19_yes (b pb : Nat) (s : N) (w : World) (hs : Live w b pb s) (hr : s.role = 3) :
    Calls Try.prog 19 #[.pointer (some ⟨b, 0, none⟩)] w fun e w' => e = .returned (.bool true) ∧ Keep [] w w' := by
  have c12 : w.cell? ⟨b, 12, none⟩ = some (.int .u8 3) := by rw [← hr]; exact hs.node.cell 12
  clear hs hr
  go_enter Try.func19, Try.ntmps19
  go_wp2_with fail
  go_quiet (fail)
  go_wp2_with fail
  go_ret
  exact ⟨rfl, keep_drewN _ _⟩
theorem lease12 (b : Nat) (r : Bool) (w : World) (h : Calls Try.prog 19 #[.pointer (some ⟨b, 0, none⟩)] w fun e w' => e = .returned (.bool r) ∧ Keep [] w w') :
    Calls Try.prog 12 #[.pointer (some ⟨b, 0, none⟩)] w fun e w' => e = .returned (.bool r) ∧ Keep [] w w' := by
  have H : Hid (Calls Try.prog 19 #[.pointer (some ⟨b, 0, none⟩)] w fun e w' => e = .returned (.bool r) ∧ Keep [] w w') := h
  clear h
  go_enter Try.func12, Try.ntmps12
  go_wp2_with fail
  refine H.out.mono ?_
  rintro e w1 ⟨rfl, hk⟩
  have HK : Hid (Keep [] w w1) := hk
  clear hk
  go_wp2_with fail
  go_ret
  exact ⟨rfl, HK.out⟩

/-- What follow leaves of a node. -/
def Followed (s s' : N) : Prop := ∃ (tm vt tt : Int) (d : Bool), s' = { s with term := tm, vote := vt, dirty := d, role := 0, leader := 0, elapsed := 0, timeout := tt }

set_option maxRecDepth 100000 in
set_option maxHeartbeats 1000000 in
theorem follow17 (b pb : Nat) (s : N) (t : Int) (w : World) (hs : Live w b pb s) (h1 : 2 ≤ s.ticks) (h2 : s.ticks ≤ 65536) :
    Calls Try.prog 17 #[.pointer (some ⟨b, 0, none⟩), .int .u64 t, .int .u64 0] w fun e w' => e = .returned (.tuple #[]) ∧ (∃ s', Live w' b pb s' ∧ Followed s s') ∧ Keep [b, pb] w w' := by
  have c8 : w.cell? ⟨b, 8, none⟩ = some (.int .u64 s.term) := hs.node.cell 8
  have c9 : w.cell? ⟨b, 9, none⟩ = some (.int .u64 s.vote) := hs.node.cell 9
  have c11 : w.cell? ⟨b, 11, none⟩ = some (.bool s.dirty) := hs.node.cell 11
  have c12 : w.cell? ⟨b, 12, none⟩ = some (.int .u8 s.role) := hs.node.cell 12
  have c13 : w.cell? ⟨b, 13, none⟩ = some (.int .u64 s.leader) := hs.node.cell 13
  have c38 : w.cell? ⟨b, 38, none⟩ = some (.slice none 0 0) := hs.node.cell 38
  have hf := hs.node.frozen
  have HS : Hid (Live w b pb s) := hs
  clear hs
  by_cases ht : s.term < t
  · go_enter Try.func17, Try.ntmps17
    go_wp2_with fail
    have hL := (((((HS.out.put (t := { s with term := t }) 8 (.int .u64 t) rfl rfl).put (t := { s with term := t, vote := 0 }) 9 (.int .u64 0) rfl rfl).put (t := { s with term := t, vote := 0, dirty := true }) 11 (.bool true) rfl rfl).put (t := { s with term := t, vote := 0, dirty := true, role := 0 }) 12 (.int .u8 0) rfl rfl).put (t := { s with term := t, vote := 0, dirty := true, role := 0, leader := 0 }) 13 (.int .u64 0) rfl rfl).put (t := { s with term := t, vote := 0, dirty := true, role := 0, leader := 0 }) 38 (.slice none 0 0) rfl rfl
    have hK : Keep [b, pb] w ((((((w.setCell ⟨b, 8, none⟩ (.int .u64 t)).setCell ⟨b, 9, none⟩ (.int .u64 0)).setCell ⟨b, 11, none⟩ (.bool true)).setCell ⟨b, 12, none⟩ (.int .u8 0)).setCell ⟨b, 13, none⟩ (.int .u64 0)).setCell ⟨b, 38, none⟩ (.slice none 0 0)) := ((((((Keep.refl _ _).setCell _ (by simp) _).setCell _ (by simp) _).setCell _ (by simp) _).setCell _ (by simp) _).setCell _ (by simp) _).setCell _ (by simp) _
    refine (reset23 b pb _ _ hL h1 h2).mono ?_
    rintro e w1 ⟨rfl, ⟨tt, hL1⟩, hk1⟩
    have HL : Hid (Live w1 b pb { s with term := t, vote := 0, dirty := true, role := 0, leader := 0, elapsed := 0, timeout := tt }) := hL1
    have HK : Hid (Keep [b, pb] w w1) := hK.trans hk1
    clear hL1 hk1 hL hK c8 c9 c11 c12 c13 c38 hf HS
    go_wp2_with fail
    refine bodyPost_ret (results_none rfl _ _ _) rfl ?_
    exact ⟨rfl, ⟨_, HL.out, t, 0, tt, true, rfl⟩, HK.out⟩
  · go_enter Try.func17, Try.ntmps17
    go_wp2_with fail
    have hL := ((HS.out.put (t := { s with role := 0 }) 12 (.int .u8 0) rfl rfl).put (t := { s with role := 0, leader := 0 }) 13 (.int .u64 0) rfl rfl).put (t := { s with role := 0, leader := 0 }) 38 (.slice none 0 0) rfl rfl
    have hK : Keep [b, pb] w (((w.setCell ⟨b, 12, none⟩ (.int .u8 0)).setCell ⟨b, 13, none⟩ (.int .u64 0)).setCell ⟨b, 38, none⟩ (.slice none 0 0)) := (((Keep.refl _ _).setCell _ (by simp) _).setCell _ (by simp) _).setCell _ (by simp) _
    refine (reset23 b pb _ _ hL h1 h2).mono ?_
    rintro e w1 ⟨rfl, ⟨tt, hL1⟩, hk1⟩
    have HL : Hid (Live w1 b pb { s with role := 0, leader := 0, elapsed := 0, timeout := tt }) := hL1
    have HK : Hid (Keep [b, pb] w w1) := hK.trans hk1
    clear hL1 hk1 hL hK c8 c9 c11 c12 c13 c38 hf HS
    go_wp2_with fail
    refine bodyPost_ret (results_none rfl _ _ _) rfl ?_
    exact ⟨rfl, ⟨_, HL.out, s.term, s.vote, tt, s.dirty, rfl⟩, HK.out⟩
end Go.Proofs.Qxb6614192a
